import Derived.Test.Qxb6614135aModsRows
import Derived.WalkKit
import Derived.ProofKit
import Derived.OpenShut
namespace Go.Proofs.Qxb6614135aMods.walks
open Go.ChangeShapes Go.WideShapes Go.ChangeAt Go.RowKit

theorem ret_int {k : IntKind} {a b : Int} (h : a = b) : Ending.returned (.int k a) = .returned (.int k b) := by rw [h]

theorem seg_low (s : Int) (h0 : 0 ≤ s) (h1 : s < 9223372036837998592) (w : World) :
    Calls Trym.prog 5 #[.int .i64 s] w fun e w' => e = .returned (.int .i64 ((s + 16777215) / 16777216)) ∧ w' = w := by
  go_enter Trym.func5, Trym.ntmps5
  go_wp2
  go_ret
  exact ⟨ret_int (by omega), rfl⟩

/-- At the greatest size the sum size + SegmentSize wraps to the least int64, and taking 1 away wraps it back. -/
theorem seg_top (w : World) :
    Calls Trym.prog 5 #[.int .i64 9223372036837998592] w fun e w' => e = .returned (.int .i64 549755813887) ∧ w' = w := by
  go_enter Trym.func5, Trym.ntmps5
  go_wp2
  go_ret
  exact ⟨ret_int (by decide +kernel), rfl⟩

/-- Segments, within the law's range: the least count of whole segments that hold s bytes. -/
theorem seg_any {s : Int} (h0 : 0 ≤ s) (h1 : s ≤ 9223372036837998592) (w : World) :
    Calls Trym.prog 5 #[.int .i64 s] w fun e w' => (∃ n : Int, e = .returned (.int .i64 n) ∧ 0 ≤ n ∧ n ≤ 549755813887 ∧ s ≤ n * 16777216 ∧ n * 16777216 < s + 16777216) ∧ w' = w := by
  by_cases h : s < 9223372036837998592
  · refine (seg_low s h0 h w).mono ?_
    rintro e w' ⟨rfl, rfl⟩
    exact ⟨⟨_, rfl, by omega, by omega, by omega, by omega⟩, rfl⟩
  · obtain rfl : s = 9223372036837998592 := by omega
    refine (seg_top w).mono ?_
    rintro e w' ⟨rfl, rfl⟩
    exact ⟨⟨_, rfl, by omega, by omega, by omega, by omega⟩, rfl⟩

end Go.Proofs.Qxb6614135aMods.walks
