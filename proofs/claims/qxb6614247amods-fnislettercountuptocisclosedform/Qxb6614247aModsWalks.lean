import Derived.Test.Qxb6614247aModsRows
import Derived.WalkKit
import Derived.ProofKit
import Derived.OpenShut
namespace Go.Proofs.Qxb6614247aMods.walks
open Go.ChangeShapes Go.WideShapes Go.ChangeAt Go.RowKit

theorem ret_bool {a b : Bool} (h : a = b) : Ending.returned (.bool a) = .returned (.bool b) := by rw [h]

/-- Is c a lower-case letter? -/
def lowB (c : Int) : Bool := decide (97 ≤ c ∧ c ≤ 122)
/-- Is c a letter? -/
def letB (c : Int) : Bool := decide (97 ≤ c ∧ c ≤ 122 ∨ 65 ≤ c ∧ c ≤ 90)

theorem low_ge {c : Int} (h : 97 ≤ c) : decide (c ≤ 122) = lowB c := decide_eq_decide.mpr ⟨fun x => ⟨h, x⟩, fun x => x.2⟩
theorem low_lt {c : Int} (h : c < 97) : false = lowB c := (decide_eq_false (by omega)).symm
theorem let_low {c : Int} (h : lowB c = true) : true = letB c := by
  have := of_decide_eq_true h
  exact (decide_eq_true (by omega)).symm
theorem let_ge {c : Int} (h : lowB c = false) (k : 65 ≤ c) : decide (c ≤ 90) = letB c := by
  have := of_decide_eq_false h
  exact decide_eq_decide.mpr (by omega)
theorem let_lt {c : Int} (h : lowB c = false) (k : c < 65) : false = letB c := by
  have := of_decide_eq_false h
  exact (decide_eq_false (by omega)).symm

theorem low_any (c : Int) (w : World) :
    Calls Trym.prog 24 #[.int .u8 c] w fun e w' => e = .returned (.bool (lowB c)) ∧ w' = w := by
  go_enter Trym.func24, Trym.ntmps24
  go_wp2
  all_goals go_ret
  · exact ⟨ret_bool (low_ge ‹_›), rfl⟩
  · exact ⟨ret_bool (low_lt ‹_›), rfl⟩

theorem let_any (c : Int) (w : World) :
    Calls Trym.prog 23 #[.int .u8 c] w fun e w' => e = .returned (.bool (letB c)) ∧ w' = w := by
  cases h : lowB c with
  | true =>
    go_enter Trym.func23, Trym.ntmps23
    go_wp2_with (go_at_call 24; refine (low_any _ _).mono ?_; rintro e w' ⟨rfl, rfl⟩)
    go_ret
    exact ⟨ret_bool (let_low h), rfl⟩
  | false =>
    by_cases k : 65 ≤ c
    · go_enter Trym.func23, Trym.ntmps23
      go_wp2_with (go_at_call 24; refine (low_any _ _).mono ?_; rintro e w' ⟨rfl, rfl⟩)
      go_ret
      exact ⟨ret_bool (let_ge h k), rfl⟩
    · go_enter Trym.func23, Trym.ntmps23
      go_wp2_with (go_at_call 24; refine (low_any _ _).mono ?_; rintro e w' ⟨rfl, rfl⟩)
      go_ret
      exact ⟨ret_bool (let_lt h (by omega)), rfl⟩

theorem zzlet_any (c : Int) (w : World) :
    Calls Trym.prog 8 #[.int .u8 c] w fun e w' => e = .returned (.bool (letB c)) ∧ w' = w := by
  go_enter Trym.func8, Trym.ntmps8
  go_wp2_with (go_at_call 23; refine (let_any _ _).mono ?_; rintro e w' ⟨rfl, rfl⟩)
  go_ret
  exact ⟨rfl, rfl⟩

theorem zzlow_any (c : Int) (w : World) :
    Calls Trym.prog 9 #[.int .u8 c] w fun e w' => e = .returned (.bool (lowB c)) ∧ w' = w := by
  go_enter Trym.func9, Trym.ntmps9
  go_wp2_with (go_at_call 24; refine (low_any _ _).mono ?_; rintro e w' ⟨rfl, rfl⟩)
  go_ret
  exact ⟨rfl, rfl⟩

/-- The contracts as the laws use them: the answer is handed in as a Bool of its own. -/
theorem zzlet_at (r : Bool) {c : Int} {w : World} (hr : letB c = r) :
    Calls Trym.prog 8 #[.int .u8 c] w fun e w' => e = .returned (.bool r) ∧ w' = w := by
  subst hr; exact zzlet_any c w
theorem zzlow_at (r : Bool) {c : Int} {w : World} (hr : lowB c = r) :
    Calls Trym.prog 9 #[.int .u8 c] w fun e w' => e = .returned (.bool r) ∧ w' = w := by
  subst hr; exact zzlow_any c w

end Go.Proofs.Qxb6614247aMods.walks
