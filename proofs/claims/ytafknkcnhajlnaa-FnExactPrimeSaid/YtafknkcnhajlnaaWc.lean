/- The prime's and the order's bytes as the thin package hands them back. -/
import Derived.Test.YtafknkcnhajlnaaWa
import Derived.OwnWalk
import Derived.Lib.Hide
namespace Go.Proofs.Ytafknkcnhajlnaa
open Go.RowKit
theorem Try.info5 : (Try.prog.info? 5).map (fun i => (i.zero, i.size, i.bytes)) = some (some (.int .u8 0), 1, 1) := by kernel_rfl
/-- The bytes l stand at v. -/
def BytesAt (w : World) (v : Value) (l : List Int) : Prop :=
  ∃ b o c, v = .slice (some ⟨b, o, none⟩) l.length c ∧ b < w.heap.size ∧ ∀ j, j < l.length → w.cell? ⟨b, o + j, none⟩ = some (.int .u8 (l.getD j 0))
def Gives (w : World) (l : List Int) (e : Ending) (w' : World) : Prop := ∃ v, e = .returned v ∧ BytesAt w' v l ∧ Below w.heap.size w w'
theorem one_u8s (l : List Int) : ∀ u ∈ u8s l, u.oneCell' = true := by
  intro u hu
  obtain ⟨x, _, rfl⟩ := List.mem_map.1 hu
  rfl
theorem add_off (b j : Nat) : (⟨b, 0, none⟩ : Addr).add j = ⟨b, j, none⟩ := by unfold Addr.add; split <;> simp_all
theorem lies_new (w : World) (l : List Value) (t : TypeId) (j : Nat) (u : Value) (h : l[j]? = some u) (b : Nat) (hb : w.heap.size = b) :
    (w.alloc (.cells l.toArray t)).cell? ((⟨b, 0, none⟩ : Addr).add j) = some u := by
  subst hb
  rw [add_off, World.cell?_alloc_new]
  simpa using h
theorem bytes_of_own {w : World} {B n : Nat} {v : Value} {l : List Int} {xs : List Value} (h : w.ownsRow B 5 1 v n xs) (hx : xs = u8s l) (hn : n = l.length) (h0 : 0 < n) : BytesAt w v l := by
  subst hx
  obtain ⟨_, ⟨_, hz⟩ | ⟨g, cap, cur, rfl, _, hg, _, _, hs, ht⟩⟩ := h
  · omega
  · subst hn
    refine ⟨g, 0, cap, rfl, ?_, fun j hj => ?_⟩
    · rcases Nat.lt_or_ge g w.heap.size with hlt | hge
      · exact hlt
      · rw [Array.getElem?_eq_none hge] at hg
        cases hg
    · have hc : w.cell? ⟨g, 0 + j, none⟩ = cur[j]? := by
        unfold World.cell?
        rw [hg]
        simp
      rw [hc, ← Array.getElem?_toList]
      have h2 : (cur.toList.take (l.length * 1))[j]? = (u8s l)[j]? := by rw [ht]
      rw [List.getElem?_take_of_lt (by omega)] at h2
      rw [h2]
      simp [u8s, List.getElem?_eq_getElem hj]
theorem gives_append {w W w1 : World} {l : List Int} {v : Value} {n : Nat} {xs : List Value} (hW : Below w.heap.size w W) (h : w1.ownsRow W.heap.size 5 1 v n xs) (hg : W.grownBy w1 none) (hx : xs = u8s l)
    (hn : n = l.length) (h0 : 0 < n) : Gives w l (.returned v) w1 :=
  ⟨v, rfl, bytes_of_own h hx hn h0, hW.grown hg hW.size (fun _ e => by cases e)⟩
theorem Prime_any (w : World) : Calls Try.prog 5 #[] w fun e w' => Gives w pb e w' := by
  obtain ⟨i0, hi, hz0, hz1, hz2⟩ := info_parts Try.info5
  have hn : ∀ (j : Nat) (u : Value), (u8s pb)[j]? = some u → (((w.alloc (Obj.cells #[] 5)).alloc (Obj.cells (u8s pb).toArray 31)).alloc (Obj.cells (u8s pb).toArray 31)).cell? ((⟨w.heap.size + 1 + 1, 0, none⟩ : Addr).add j) = some u :=
    fun j u h => lies_new _ _ _ j u h _ (by simp)
  have HN := Lib.hid hn
  clear hn
  go_enter Try.func5, Try.ntmps5
  go_wp2_with (first
    | (go_at_call 9; refine (FpOrder_any _).mono ?_; rintro e w' ⟨rfl, rfl⟩)
    | (at_builtin; refine wpList_append_grows _ rfl (.tmp 1) (.tmp 2) 23 rfl 5 i0 (.int .u8 0) 1 1 Try.underlying23 hi hz0 hz1 hz2 rfl (by decide) (some ⟨w.heap.size, 0, none⟩) 0 0 [] rfl (by simp) rfl (by simp) ⟨w.heap.size + 1 + 1, 0, none⟩ 48 48 (u8s pb) rfl rfl HN.out (one_u8s pb) (by decide) (by decide) (by decide) ?_; intro v' w1 hown hgrow))
  go_ret
  exact gives_append ((((Below.refl _ _).alloc (Nat.le_refl _) _).alloc (by simp) _).alloc (by simp; omega) _) hown hgrow rfl rfl (by decide)
theorem Order_any (w : World) : Calls Try.prog 7 #[] w fun e w' => Gives w ob e w' := by
  obtain ⟨i0, hi, hz0, hz1, hz2⟩ := info_parts Try.info5
  have hn : ∀ (j : Nat) (u : Value), (u8s ob)[j]? = some u → (((w.alloc (Obj.cells #[] 5)).alloc (Obj.cells (u8s ob).toArray 35)).alloc (Obj.cells (u8s ob).toArray 35)).cell? ((⟨w.heap.size + 1 + 1, 0, none⟩ : Addr).add j) = some u :=
    fun j u h => lies_new _ _ _ j u h _ (by simp)
  have HN := Lib.hid hn
  clear hn
  go_enter Try.func7, Try.ntmps7
  go_wp2_with (first
    | (go_at_call 12; refine (ScalarOrder_any _).mono ?_; rintro e w' ⟨rfl, rfl⟩)
    | (at_builtin; refine wpList_append_grows _ rfl (.tmp 1) (.tmp 2) 23 rfl 5 i0 (.int .u8 0) 1 1 Try.underlying23 hi hz0 hz1 hz2 rfl (by decide) (some ⟨w.heap.size, 0, none⟩) 0 0 [] rfl (by simp) rfl (by simp) ⟨w.heap.size + 1 + 1, 0, none⟩ 32 32 (u8s ob) rfl rfl HN.out (one_u8s ob) (by decide) (by decide) (by decide) ?_; intro v' w1 hown hgrow))
  go_ret
  exact gives_append ((((Below.refl _ _).alloc (Nat.le_refl _) _).alloc (by simp) _).alloc (by simp; omega) _) hown hgrow rfl rfl (by decide)
end Go.Proofs.Ytafknkcnhajlnaa
