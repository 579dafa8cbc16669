/- The contracts of the functions that FnExactPrime reaches. -/
import Derived.Test.YtafknkcnhajlnaaProg
import Derived.WalkKit
import Derived.Below
import Derived.ArgAppend
import Derived.Deep.MidRow
import Derived.Deep.WholeRow
namespace Go.Proofs.Ytafknkcnhajlnaa
open Go.RowKit
/-- The bytes of the prime, and of the order. -/
def pb : List Int := [26, 1, 17, 234, 57, 127, 230, 154, 75, 27, 167, 182, 67, 75, 172, 215, 100, 119, 75, 132, 243, 133, 18, 191, 103, 48, 210, 160, 246, 176, 246, 36, 30, 171, 255, 254, 177, 83, 255, 255, 185, 254, 255, 255, 255, 255, 170, 171]
def ob : List Int := [115, 237, 167, 83, 41, 157, 125, 72, 51, 57, 216, 8, 9, 161, 216, 5, 83, 189, 164, 2, 255, 254, 91, 254, 255, 255, 255, 255, 0, 0, 0, 1]
def u8s (l : List Int) : List Value := l.map (Value.int .u8)
theorem fpOrder_any (w : World) :
    Calls Try.prog 14 #[] w fun e w' => e = .returned (.pointer (some ⟨w.heap.size, 0, none⟩)) ∧ w' = w.alloc (.cells (u8s pb).toArray 31) := by
  go_enter Try.func14, Try.ntmps14
  go_wp2
  go_ret
  exact ⟨rfl, rfl⟩
theorem scOrder_any (w : World) :
    Calls Try.prog 15 #[] w fun e w' => e = .returned (.pointer (some ⟨w.heap.size, 0, none⟩)) ∧ w' = w.alloc (.cells (u8s ob).toArray 35) := by
  go_enter Try.func15, Try.ntmps15
  go_wp2
  go_ret
  exact ⟨rfl, rfl⟩
theorem spec_prime_any (w : World) :
    Calls Try.prog 11 #[] w fun e w' => e = .returned (.agg #[.int .u64 0xb9feffffffffaaab, .int .u64 0x1eabfffeb153ffff, .int .u64 0x6730d2a0f6b0f624, .int .u64 0x64774b84f38512bf, .int .u64 0x4b1ba7b6434bacd7, .int .u64 0x1a0111ea397fe69a]) ∧ Below w.heap.size w w' := by
  go_enter Try.func11, Try.ntmps11
  go_wp2
  refine bodyPost_ret (v := .agg #[.int .u64 0xb9feffffffffaaab, .int .u64 0x1eabfffeb153ffff, .int .u64 0x6730d2a0f6b0f624, .int .u64 0x64774b84f38512bf, .int .u64 0x4b1ba7b6434bacd7, .int .u64 0x1a0111ea397fe69a]) (by simp [results, Try.results11, go_sem]) rfl ⟨rfl, ?_⟩
  exact (Below.refl _ _).alloc (Nat.le_refl _) _
theorem spec_order_any (w : World) :
    Calls Try.prog 13 #[] w fun e w' => e = .returned (.agg #[.int .u64 0xffffffff00000001, .int .u64 0x53bda402fffe5bfe, .int .u64 0x3339d80809a1d805, .int .u64 0x73eda753299d7d48, .int .u64 0, .int .u64 0]) ∧ Below w.heap.size w w' := by
  go_enter Try.func13, Try.ntmps13
  go_wp2
  refine bodyPost_ret (v := .agg #[.int .u64 0xffffffff00000001, .int .u64 0x53bda402fffe5bfe, .int .u64 0x3339d80809a1d805, .int .u64 0x73eda753299d7d48, .int .u64 0, .int .u64 0]) (by simp [results, Try.results13, go_sem]) rfl ⟨rfl, ?_⟩
  exact (Below.refl _ _).alloc (Nat.le_refl _) _
theorem len_pb : (u8s pb).length = 48 := rfl
theorem len_ob : (u8s ob).length = 32 := rfl
theorem wpList_store_new {P : Program} {ops : Array Oper} {rest : List Oper} {op : Oper} {a : Act} {Q : Exit → Act → World → Prop} (hgd : op.guard = none) (t : TypeId) (x y : Operand) (ho : op.op = .store t x y)
    (w0 : World) (b : Nat) (hb : w0.heap.size = b) (c c' : Array Value) (hx : a.eval x = .pointer (some ⟨b, 0, none⟩)) (hy : a.eval y = .agg c')
    (hi : (P.info? t).map (·.size) = some c'.size) (hc : c.size = c'.size) (h1 : c'.all (·.oneCell') = true)
    (h : wpList P ops Q rest (a.put op.dst undef) (w0.alloc (.cells c' t))) : wpList P ops Q (op :: rest) a (w0.alloc (.cells c t)) :=
  wpList_plain hgd fun K hK => by
    subst hb
    unfold Oper.wp execOp
    simp only [ho, hx, hy, Sem.run_bind, run_storeAt_new w0 t c c' hi hc h1, Result.andThen_ok, Sem.run_pure]
    exact hK _ _ h
theorem range_new (w : World) (l : List Value) (t : TypeId) : (w.alloc (.cells l.toArray t)).rangeAt w.heap.size 0 l := by
  intro j v hj
  rw [Nat.zero_add, World.cell?_alloc_new]
  simpa using hj
theorem FpOrder_any (w : World) :
    Calls Try.prog 9 #[] w fun e w' => e = .returned (.slice (some ⟨w.heap.size + 1, 0, none⟩) 48 48) ∧ w' = (w.alloc (.cells (u8s pb).toArray 31)).alloc (.cells (u8s pb).toArray 31) := by
  have hl := range_new w (u8s pb) 31
  go_enter Try.func9, Try.ntmps9
  go_wp2_with (first
    | (go_at_call 14; refine (fpOrder_any _).mono ?_; rintro e w' ⟨rfl, rfl⟩)
    | (with_reducible refine wpList_load_mid rfl 31 (.tmp 3) rfl w.heap.size 0 rfl (u8s pb) _ hl Try.underlying31 rfl (by kernel_rfl) ?_)
    | (with_reducible refine wpList_store_new rfl 31 (.tmp 1) (.tmp 4) rfl _ (w.heap.size + 1) (by simp) _ (u8s pb).toArray rfl rfl (by kernel_rfl) rfl (by kernel_rfl) ?_))
  go_ret
  exact ⟨rfl, rfl⟩
theorem ScalarOrder_any (w : World) :
    Calls Try.prog 12 #[] w fun e w' => e = .returned (.slice (some ⟨w.heap.size + 1, 0, none⟩) 32 32) ∧ w' = (w.alloc (.cells (u8s ob).toArray 35)).alloc (.cells (u8s ob).toArray 35) := by
  have hl := range_new w (u8s ob) 35
  go_enter Try.func12, Try.ntmps12
  go_wp2_with (first
    | (go_at_call 15; refine (scOrder_any _).mono ?_; rintro e w' ⟨rfl, rfl⟩)
    | (with_reducible refine wpList_load_mid rfl 35 (.tmp 3) rfl w.heap.size 0 rfl (u8s ob) _ hl Try.underlying35 rfl (by kernel_rfl) ?_)
    | (with_reducible refine wpList_store_new rfl 35 (.tmp 1) (.tmp 4) rfl _ (w.heap.size + 1) (by simp) _ (u8s ob).toArray rfl rfl (by kernel_rfl) rfl (by kernel_rfl) ?_))
  go_ret
  exact ⟨rfl, rfl⟩
end Go.Proofs.Ytafknkcnhajlnaa
