/- slices.Equal over two slices that hold the same bytes. -/
import Derived.Test.YtafknkcnhajlnaaProg
import Derived.WalkKit
import Derived.Below
import Derived.LoopTactic
import Derived.Deep.QuietTactic
import Derived.BigQuiet
import Derived.Lib.Hide
namespace Go.Proofs.Ytafknkcnhajlnaa
open Go.RowKit
set_option maxHeartbeats 1000000 in
theorem equal_true (b1 o1 c1 b2 o2 c2 n : Nat) (l : List Int) (w : World) (hl : l.length = n) (hn : n ≤ 1000)
    (h1 : ∀ j, j < n → w.cell? ⟨b1, o1 + j, none⟩ = some (.int .u8 (l.getD j 0))) (h2 : ∀ j, j < n → w.cell? ⟨b2, o2 + j, none⟩ = some (.int .u8 (l.getD j 0))) :
    Calls Try.prog 4 #[.slice (some ⟨b1, o1, none⟩) n c1, .slice (some ⟨b2, o2, none⟩) n c2] w fun e w' => e = .returned (.bool true) ∧ ∃ d, w' = w.drewN d := by
  have H1 := Lib.hid h1
  have H2 := Lib.hid h2
  have HL := Lib.hid hl
  clear h1 h2 hl
  go_enter Try.func4, Try.ntmps4
  go_wp2
  go_loopw [5, 13] (fun t i wr => ∃ k : Nat, k ≤ n ∧ i = .int .i64 k ∧ ∃ d, wr = w.drewN d) (fun _ i _ => n - (intOf i).toNat)
  case atStart => exact ⟨0, Nat.zero_le _, rfl, 0, rfl⟩
  case round =>
    obtain ⟨k, hk, rfl, d, rfl⟩ := hrel
    by_cases hlt : k < n
    · have g1 := H1.out k hlt
      have g2 := H2.out k hlt
      go_wp2
      go_quiet (fail)
      go_wp2
      exact ⟨⟨k + 1, by omega, by go_num, d + nq, rfl⟩, by simp [intOf]; omega⟩
    · go_wp2
      go_ret
      exact ⟨rfl, d, rfl⟩
end Go.Proofs.Ytafknkcnhajlnaa
