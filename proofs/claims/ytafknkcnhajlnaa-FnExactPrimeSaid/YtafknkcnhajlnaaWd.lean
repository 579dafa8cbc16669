/- spec.toBytes: the bytes of a number, the highest first. -/
import Derived.Test.YtafknkcnhajlnaaWc
import Derived.LoopTactic
import Derived.IntWalk
import Derived.Laws.MakeOwn
namespace Go.Proofs.Ytafknkcnhajlnaa
open Go.RowKit
theorem make_bytes (n : Nat) (hn : n ≤ 48) (W : World) :
    (Instr.makeSlice 23 (.int .i64 n) (.int .i64 n)).run Try.prog W = .ok (.slice (some ⟨W.heap.size, 0, none⟩) n n) (W.alloc (.cells (madeCells #[.int .u8 0] n) 5)) := by
  obtain ⟨i0, hi, hz0, hz1, hz2⟩ := info_parts Try.info5
  have := run_make (P := Try.prog) W 23 5 i0 (.int .u8 0) Try.underlying23 hi hz0 .i64 .i64 n n (by omega) (by omega) (by rw [hz2]; omega) (by omega)
  rw [this, hz1]
  simp [Value.cells]
/-- The word of a number at a place. -/
theorem word_at (a0 a1 a2 a3 a4 a5 : Int) (i : Nat) (hi : i < 6) :
    (#[.int .u64 a0, .int .u64 a1, .int .u64 a2, .int .u64 a3, .int .u64 a4, .int .u64 a5] : Array Value)[i]? = some (.int .u64 ([a0, a1, a2, a3, a4, a5].getD i 0)) := by
  rcases (by omega : i = 0 ∨ i = 1 ∨ i = 2 ∨ i = 3 ∨ i = 4 ∨ i = 5) with rfl | rfl | rfl | rfl | rfl | rfl <;> rfl
/-- The byte of a number at a place, the lowest one first; and so many bytes, the highest one first. -/
def byteAt (ws : List Int) (k : Nat) : Int := ws.getD (k / 8) 0 / 2 ^ (8 * (k % 8)) % 256
def bytesOf (ws : List Int) (n : Nat) : List Int := (List.range n).map fun j => byteAt ws (n - 1 - j)
/-- So many of the cells bear their byte. -/
def Told (ws : List Int) (n k : Nat) (cur : Array Value) : Prop := cur.size = n ∧ ∀ j, j < k → cur[n - 1 - j]? = some (.int .u8 (byteAt ws j))
theorem Told.next {ws : List Int} {n k : Nat} {cur : Array Value} (h : Told ws n k cur) (hk : k < n) {x : Int} (hx : x = ws.getD (k / 8) 0) :
    Told ws n (k + 1) (cur.setIfInBounds (n - 1 - k) (.int .u8 (x / 2 ^ (8 * (k % 8)) % 256))) := by
  subst hx
  refine ⟨by simp [h.1], fun j hj => ?_⟩
  by_cases e : j = k
  · subst e
    have : n - 1 - j < cur.size := by rw [h.1]; omega
    simp [this, byteAt]
  · rw [Array.getElem?_setIfInBounds_ne (by omega)]
    exact h.2 j (by omega)
theorem Told.gives {ws : List Int} {n : Nat} {cur : Array Value} {w : World} (h : Told ws n n cur) (o : Obj) :
    Gives w (bytesOf ws n) (.returned (.slice (some ⟨w.heap.size + 1, 0, none⟩) n n)) ((w.alloc o).alloc (.cells cur 5)) := by
  refine ⟨_, rfl, ⟨w.heap.size + 1, 0, n, by simp [bytesOf], by simp, fun j hj => ?_⟩, ((Below.refl _ _).alloc (Nat.le_refl _) _).alloc (by simp) _⟩
  have hj' : j < n := by simpa [bytesOf] using hj
  have hc : ((w.alloc o).alloc (.cells cur 5)).cell? ⟨w.heap.size + 1, 0 + j, none⟩ = cur[j]? := by
    simp
  have hb := h.2 (n - 1 - j) (by omega)
  rw [show n - 1 - (n - 1 - j) = j by omega] at hb
  rw [hc, hb]
  simp [bytesOf, hj']
set_option maxHeartbeats 1000000 in
theorem toBytes_any (a0 a1 a2 a3 a4 a5 : Int) (n : Nat) (w : World) (hn : n ≤ 48) :
    Calls Try.prog 10 #[.agg #[.int .u64 a0, .int .u64 a1, .int .u64 a2, .int .u64 a3, .int .u64 a4, .int .u64 a5], .int .i64 n] w fun e w' => Gives w (bytesOf [a0, a1, a2, a3, a4, a5] n) e w' := by
  have hmk := make_bytes n hn
  go_enter Try.func10, Try.ntmps10
  go_wp2
  clear hmk
  go_loopw [6] (fun i wr => ∃ k : Nat, k ≤ n ∧ i = .int .i64 k ∧ ∃ cur : Array Value, Told [a0, a1, a2, a3, a4, a5] n k cur ∧ wr = (w.alloc (.cells #[.int .u64 a0, .int .u64 a1, .int .u64 a2, .int .u64 a3, .int .u64 a4, .int .u64 a5] 29)).alloc (.cells cur 5)) (fun i _ => n - (intOf i).toNat)
  case atStart => exact ⟨0, Nat.zero_le _, rfl, _, ⟨size_madeCells _ _, fun j hj => absurd hj (Nat.not_lt_zero j)⟩, rfl⟩
  case round =>
    obtain ⟨k, hk, rfl, cur, hc, rfl⟩ := hrel
    by_cases hlt : k < n
    · have hs := hc.1
      have hx := word_at a0 a1 a2 a3 a4 a5 (k / 8) (by omega)
      obtain ⟨x, hX⟩ : ∃ x, x = [a0, a1, a2, a3, a4, a5].getD (k / 8) 0 := ⟨_, rfl⟩
      rw [← hX] at hx
      obtain ⟨y, hy⟩ : ∃ y, cur[n - 1 - k]? = some y := ⟨cur[n - 1 - k]'(by omega), Array.getElem?_eq_getElem _⟩
      have HC := Lib.hid (hc.next hlt hX)
      clear hX hs hc
      go_wp2
      exact ⟨⟨k + 1, by omega, by go_num, _, HC.out, rfl⟩, by simp [intOf]; omega⟩
    · obtain rfl : k = n := by omega
      have HC := Lib.hid (hc.gives (w := w) (.cells #[.int .u64 a0, .int .u64 a1, .int .u64 a2, .int .u64 a3, .int .u64 a4, .int .u64 a5] 29))
      clear hc
      go_wp2
      go_ret
      exact HC.out
theorem prime_bytes : bytesOf [0xb9feffffffffaaab, 0x1eabfffeb153ffff, 0x6730d2a0f6b0f624, 0x64774b84f38512bf, 0x4b1ba7b6434bacd7, 0x1a0111ea397fe69a] 48 = pb := by decide
theorem order_bytes : bytesOf [0xffffffff00000001, 0x53bda402fffe5bfe, 0x3339d80809a1d805, 0x73eda753299d7d48, 0, 0] 32 = ob := by decide
theorem gives_then {w w1 w2 : World} {l : List Int} {e : Ending} (hb : Below w.heap.size w w1) (h : Gives w1 l e w2) : Gives w l e w2 :=
  let ⟨v, he, hv, hw⟩ := h
  ⟨v, he, hv, hb.trans (hw.mono hb.size)⟩
theorem specPrime_any (w : World) : Calls Try.prog 6 #[] w fun e w' => Gives w pb e w' := by
  go_enter Try.func6, Try.ntmps6
  go_wp2_with (first
    | (go_at_call 11; refine (spec_prime_any _).mono ?_; rintro e w1 ⟨rfl, hb⟩)
    | (go_at_call 10; refine (toBytes_any _ _ _ _ _ _ 48 _ (by omega)).mono ?_; rintro e w2 hg; rw [prime_bytes] at hg; obtain ⟨v, rfl, hv⟩ := gives_then hb hg))
  go_ret
  exact ⟨v, rfl, hv⟩
theorem specOrder_any (w : World) : Calls Try.prog 8 #[] w fun e w' => Gives w ob e w' := by
  go_enter Try.func8, Try.ntmps8
  go_wp2_with (first
    | (go_at_call 13; refine (spec_order_any _).mono ?_; rintro e w1 ⟨rfl, hb⟩)
    | (go_at_call 10; refine (toBytes_any _ _ _ _ _ _ 32 _ (by omega)).mono ?_; rintro e w2 hg; rw [order_bytes] at hg; obtain ⟨v, rfl, hv⟩ := gives_then hb hg))
  go_ret
  exact ⟨v, rfl, hv⟩
end Go.Proofs.Ytafknkcnhajlnaa
