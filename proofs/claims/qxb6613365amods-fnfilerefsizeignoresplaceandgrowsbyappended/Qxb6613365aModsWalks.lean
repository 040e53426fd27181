import Derived.Test.Qxb6613365aModsRows
import Derived.WalkKit
import Derived.ProofKit
import Derived.OpenShut
import Derived.ShutString
namespace Go.Proofs.Qxb6613365aMods.walks
open Go.ChangeShapes Go.WideShapes Go.ChangeAt Go.RowKit

theorem grown_trans {a b c : World} (h1 : Grown a b) (h2 : Grown b c) : Grown a c :=
  ⟨World.keptBut_trans h1.1 h2.1, fun x => (h2.2.1 x).trans (h1.2.1 x), Nat.le_trans h1.2.2 h2.2.2⟩

set_option maxHeartbeats 400000 in
theorem size_any (n an so aty : ByteArray) (at' sz : Int) (b : Bool) (h0 : n.size ≤ 10000000) (h1 : an.size ≤ 10000000) (h2 : so.size ≤ 10000000) (h3 : aty.size ≤ 10000000) (w : World) :
    Calls Trym.prog 8 #[.agg #[.string n, .int .i64 at', .int .i64 sz, .string an, .string so, .string aty, .bool b]] w fun e w' => e = .returned (.int .i64 (64 + (n.size : Int) + an.size + so.size + aty.size)) ∧ Grown w w' := by
  go_enter Trym.func8, Trym.ntmps8
  go_wp2
  go_ret
  exact ⟨rfl, by repeat (first | exact Grown.refl _ | apply Grown.drew | apply Grown.alloc)⟩

theorem ref_any (n an so aty : ByteArray) (at' sz : Int) (b : Bool) (h0 : n.size ≤ 10000000) (h1 : an.size ≤ 10000000) (h2 : so.size ≤ 10000000) (h3 : aty.size ≤ 10000000) (w : World) :
    Calls Trym.prog 6 #[.string n, .string an, .string so, .string aty, .int .i64 at', .int .i64 sz, .bool b] w fun e w' => e = .returned (.int .i64 (64 + (n.size : Int) + an.size + so.size + aty.size)) ∧ Grown w w' := by
  go_enter Trym.func6, Trym.ntmps6
  go_wp2_with (go_at_call 8; refine (size_any _ _ _ _ _ _ _ h0 h1 h2 h3 _).mono ?_; rintro e w' ⟨rfl, hg⟩)
  go_ret
  exact ⟨rfl, grown_trans (by repeat (first | exact Grown.refl _ | apply Grown.drew | apply Grown.alloc)) hg⟩

theorem ref_at (r : Int) {n an so aty : ByteArray} {at' sz : Int} {b : Bool} {w v : World} (hv : Grown v w) (h0 : n.size ≤ 10000000) (h1 : an.size ≤ 10000000) (h2 : so.size ≤ 10000000) (h3 : aty.size ≤ 10000000) (hr : 64 + (n.size : Int) + an.size + so.size + aty.size = r) :
    Calls Trym.prog 6 #[.string n, .string an, .string so, .string aty, .int .i64 at', .int .i64 sz, .bool b] w fun e w' => e = .returned (.int .i64 r) ∧ Grown v w' := by
  subst hr
  refine (ref_any n an so aty at' sz b h0 h1 h2 h3 w).mono ?_
  rintro e w' ⟨rfl, hg⟩
  exact ⟨rfl, grown_trans hv hg⟩

theorem size_empty : ({ data := #[] } : ByteArray).size = 0 := rfl

theorem bytes5_yes (a0 a1 a2 a3 : ByteArray) (x y : Int) (b : Bool) (h : (a0.size : Int) + a1.size + a2.size + a3.size ≤ 1048576) (w : World) :
    Calls Trym.prog 5 #[.string a0, .string a1, .string a2, .string a3, .int .i64 x, .int .i64 y, .bool b] w fun e w' => e = .returned (.bool true) ∧ w' = w := by
  go_enter Trym.func5, Trym.ntmps5
  go_wp2
  go_ret
  exact ⟨rfl, rfl⟩

theorem bytes5_no (a0 a1 a2 a3 : ByteArray) (x y : Int) (b : Bool) (w0 : a0.size ≤ maxLen) (w1 : a1.size ≤ maxLen) (w2 : a2.size ≤ maxLen) (w3 : a3.size ≤ maxLen) (h : ¬ (a0.size : Int) + a1.size + a2.size + a3.size ≤ 1048576) (w : World) :
    Calls Trym.prog 5 #[.string a0, .string a1, .string a2, .string a3, .int .i64 x, .int .i64 y, .bool b] w fun e w' => e = .returned (.bool false) ∧ w' = w := by
  unfold maxLen at w0 w1 w2 w3
  go_enter Trym.func5, Trym.ntmps5
  go_wp2
  all_goals
    go_ret
    exact ⟨rfl, rfl⟩

end Go.Proofs.Qxb6613365aMods.walks
