/-
  The law laws.FnExactPrime returns true for every field number: the prime and the order of the groups, as the package hands them back, have the bytes of the reference's numbers.
  Conditions: none (the row bears none).
-/
import Derived.Test.YtafknkcnhajlnaaRows
import Derived.Test.YtafknkcnhajlnaaWb
import Derived.Test.YtafknkcnhajlnaaWd
import Derived.WalkKit
import Derived.ProofKit
import Derived.OpenShut
namespace Go.Proofs.Ytafknkcnhajlnaa.fnExactPrime
open Go.ChangeShapes Go.WideShapes Go.ChangeAt Go.RowKit
set_option linter.unusedVariables false

theorem own : ownKnob Try.prog.godebug = none := by kernel_rfl

/-- The conclusion of a row whose arguments meet no memory, where nothing that was there has turned. -/
theorem post_plain {H : Type} {enc : TypeId × Value → H} {P : Program} {f : Func} {s : ChangeSpec} {apart fresh handsOn again : Bool} {W W' : World} {args : Array Value} {v : Value} {ds gs : List (DataW H)}
    (hW : DataW.Whole enc P f.params.toList s.vars apart W args.toList ds gs [])
    (hres : ∀ (b : Nat) (sp : Nat → Bool) (hd : Bool), DataW.TrodAll enc P W' b sp hd f.resultTypes.toList (v.resultList f.resultTypes.size) (s.fn H (ds ++ gs)).results [])
    (hargs : ∀ sp : Nat → Bool, DataW.TrodAll enc P W' 0 sp true f.params.toList args.toList (s.fn H (ds ++ gs)).args [])
    (hvars : ∀ sp : Nat → Bool, DataW.TrodVars enc P W' sp s.vars (s.fn H (ds ++ gs)).vars [])
    (hb : Below W.heap.size W W')
    (hok : ∀ (j : Nat) (t : TypeId) (r : Value), f.resultTypes[j]? = some t → (v.resultList f.resultTypes.size)[j]? = some r → Value.okWide P W' .any 0 t r) :
    s.post enc P f apart fresh handsOn again W args v W' := by
  have hw2 : DataW.Whole enc P (f.resultTypes.toList ++ f.params.toList) s.vars apart W' (v.resultList f.resultTypes.size ++ args.toList) ((s.fn H (ds ++ gs)).results ++ (s.fn H (ds ++ gs)).args) (s.fn H (ds ++ gs)).vars [] :=
    ⟨[], [], trodAll_append (hargs _) (hres _ _ _), hvars _, rfl, (fun b off hp => by cases hp), (fun _ => List.nodup_nil)⟩
  exact ⟨ds, gs, [], [], [], [], hW, hres _ _ _, hargs _, hvars _, hb.frame _, fun _ => ⟨hok, _, _, [], hw2, fun p hp => by cases hp⟩⟩

/-- Two slices that hold the same bytes are equal. -/
theorem equal_bytes {w : World} {v1 v2 : Value} {l : List Int} (hl : l.length ≤ 1000) (h1 : BytesAt w v1 l) (h2 : BytesAt w v2 l) :
    Calls Try.prog 4 #[v1, v2] w fun e w' => e = .returned (.bool true) ∧ Below w.heap.size w w' := by
  obtain ⟨b1, o1, c1, rfl, _, g1⟩ := h1
  obtain ⟨b2, o2, c2, rfl, _, g2⟩ := h2
  refine (equal_true b1 o1 c1 b2 o2 c2 l.length l w rfl hl g1 g2).mono fun e w' ⟨he, d, hw⟩ => ⟨he, ?_⟩
  subst hw
  exact ⟨rfl, rfl, rfl, Nat.le_refl _, fun _ _ => rfl⟩
theorem bytes_later {w w' : World} {v : Value} {l : List Int} (h : BytesAt w v l) (hb : Below w.heap.size w w') : BytesAt w' v l := by
  obtain ⟨b, o, c, rfl, hlt, g⟩ := h
  exact ⟨b, o, c, rfl, Nat.lt_of_lt_of_le hlt hb.size, fun j hj => by rw [hb.cell (p := ⟨b, o + j, none⟩) hlt]; exact g j hj⟩

theorem equal_prime {w : World} {v1 v2 : Value} (h1 : BytesAt w v1 pb) (h2 : BytesAt w v2 pb) :
    Calls Try.prog 4 #[v1, v2] w fun e w' => e = .returned (.bool true) ∧ Below w.heap.size w w' := equal_bytes (by decide) h1 h2
theorem equal_order {w : World} {v1 v2 : Value} (h1 : BytesAt w v1 ob) (h2 : BytesAt w v2 ob) :
    Calls Try.prog 4 #[v1, v2] w fun e w' => e = .returned (.bool true) ∧ Below w.heap.size w w' := equal_bytes (by decide) h1 h2

theorem walk (a0 : Int) (w0 : (Lit.int .i64 a0).wf = true) (w : World) :
    Calls Try.prog 3 #[.int .i64 a0] w fun e w' => e = .returned (.bool true) ∧ Below w.heap.size w w' := by
  by_cases h1 : a0 < 0
  · go_enter Try.func3, Try.ntmps3
    go_wp2
    go_ret
    exact ⟨rfl, Below.refl _ _⟩
  by_cases h2 : 5 < a0
  · go_enter Try.func3, Try.ntmps3
    go_wp2
    go_ret
    exact ⟨rfl, Below.refl _ _⟩
  go_enter Try.func3, Try.ntmps3
  go_wp2_with (first
    | (go_at_call 5; refine (Prime_any _).mono ?_; rintro e w1 ⟨v1, rfl, g1, b1⟩)
    | (go_at_call 6; refine (specPrime_any _).mono ?_; rintro e w2 ⟨v2, rfl, g2, b2⟩)
    | (go_at_call 4; ((with_reducible refine (equal_prime (bytes_later g1 b2) g2).mono ?_); rintro e w3 ⟨rfl, b3⟩))
    | (go_at_call 7; refine (Order_any _).mono ?_; rintro e w4 ⟨v4, rfl, g4, b4⟩)
    | (go_at_call 8; refine (specOrder_any _).mono ?_; rintro e w5 ⟨v5, rfl, g5, b5⟩)
    | (go_at_call 4; ((with_reducible refine (equal_order (bytes_later g4 b5) g5).mono ?_); rintro e w6 ⟨rfl, b6⟩)))
  go_ret
  exact ⟨rfl, ((((b1.trans (b2.mono b1.size)).trans (b3.mono (Nat.le_trans b1.size b2.size))).trans (b4.mono (by have := b1.size; have := b2.size; have := b3.size; omega))).trans
    (b5.mono (by have := b1.size; have := b2.size; have := b3.size; have := b4.size; omega))).trans
    (b6.mono (by have := b1.size; have := b2.size; have := b3.size; have := b4.size; have := b5.size; omega))⟩

set_option maxRecDepth 100000 in
theorem lifted (os : Os) (started : os.Started) (H : Type) (enc : TypeId × Value → H) :
    ReturnsInHanded {} Try.checked os 3 .any (Rows.fnExactPrimeSpec.pre6 enc Try.prog Try.f3 Rows.fnExactPrimeRow.domain false) (Rows.fnExactPrimeSpec.post enc Try.prog Try.f3 false true false false) := by
  refine returnsInHanded_of_change (C := Try.checked) own started (by kernel_rfl) Try.func3
    (ChangeSpec.witness6 (enc := enc) (C := Try.checked) false ⟨#[], #[.int .i64 0], []⟩ 8 (by kernel_rfl) (by kernel_rfl) (by kernel_rfl) (by kernel_rfl)) ?_
  intro W base args ds gs before hval0 hW hcnd _
  have hval : ∀ (j : Nat) t v, Try.f3.params[j]? = some t → args[j]? = some v → Value.okWide Try.prog W .any base t v := hval0
  have hW' := hW
  obtain ⟨p, q, hA0, hV, rfl, hfz, hnd⟩ := hW
  have hA : DataW.TrodAll enc Try.prog W 0 (fun _ => true) true Try.f3.params.toList args.toList ds p := hA0
  rw [Try.params3] at hA hval
  obtain ⟨v0, vs0, d0, ds0, p0, q0, hargs, rfl, rfl, h0, r0⟩ := trodAll_cons hA
  obtain ⟨rfl, rfl, rfl⟩ := trodAll_nil r0
  obtain rfl : args = #[v0] := by cases args; simp_all
  obtain ⟨rfl, rfl⟩ := trodVars_none hV
  obtain ⟨a0, rfl, rfl, rfl, w0⟩ := open_int Try.underlying3 (hval 0 3 v0 rfl rfl) h0
  clear hA0 hval0
  simp only [List.append_nil] at hW'
  refine (walk a0 w0 W).mono fun e W' ⟨he, hb⟩ => ?_
  subst he
  exact ⟨_, rfl, post_plain hW' (fun _ _ _ => (trodAll_cons_mk (shut_bool Try.underlying4 _) trodAll_mk0)) (fun _ => (trodAll_cons_mk (shut_int Try.underlying3 w0) trodAll_mk0)) (fun _ => rfl)
    hb (ok_one (by kernel_rfl) rfl (okWide_bool_mk Try.underlying4 _))⟩

theorem over : Rows.fnExactPrimeRow.holds Try.pinned (OpenSpec.ofChange Rows.fnExactPrimeSpec) :=
  OpenClaim.holds_of_wide 3 Try.f3 rfl rfl rfl rfl rfl rfl rfl ⟨rfl, rfl, rfl, rfl, rfl⟩ rfl rfl rfl rfl rfl (by kernel_rfl) Try.func3 (by kernel_rfl)
    (of_decide_eq_true (by kernel_rfl)) (by unfold Func.isWrapper; first | (rw [if_pos (by decide +kernel)]; kernel_rfl) | (rw [if_neg (by decide +kernel)]; exact ⟨rfl, rfl⟩))
    (fun os started H enc _ => lifted os started H enc)

theorem proved : Rows.FnExactPrimeSaid :=
  over
#print axioms proved
end Go.Proofs.Ytafknkcnhajlnaa.fnExactPrime
