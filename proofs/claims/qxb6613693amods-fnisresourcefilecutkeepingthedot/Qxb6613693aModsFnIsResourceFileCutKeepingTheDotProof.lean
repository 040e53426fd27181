/-
  THE SHELL OF A PROOF OF 'Rows.FnIsResourceFileCutKeepingTheDotSaid' ('example.com/hostloom/hostloom/zzlaws_pkg_resource_b1.FnIsResourceFileCutKeepingTheDot'), WRITTEN BY PROGRAM (proof-skeleton.mjs) off the guide's own print for that function. Not trusted: Lean checks it.
  THE WALK IS TYPED BY HAND. ALL ELSE IS THE GUIDE's TEMPLATE (howto/template/XProofs.lean) at this function's number and types: leave it.
-/
import Derived.Test.Qxb6613693aModsRows
import Derived.WalkKit
import Derived.ProofKit
import Derived.OpenShut
import Derived.Test.Qxb6613693aModsWalks
import Derived.ShutString
namespace Go.Proofs.Qxb6613693aMods.fnIsResourceFileCutKeepingTheDot
open Go.ChangeShapes Go.WideShapes Go.ChangeAt Go.RowKit
open Go.ChangeMaps (open_string shut_string)
open walks
set_option linter.unusedVariables false      -- a walk need not use every 'w<i>' (that an integer argument fits its kind)

theorem own : ownKnob Trym.prog.godebug = none := by kernel_rfl

theorem dot_yes (s : ByteArray) (w : World) (hs : s.size ≤ maxLen) (h : (46 : UInt8) ∈ s.data.toList) :
    Calls Trym.prog 8 #[.string s, .int .u8 46] w fun e w' => e = .returned (.bool true) ∧ w' = w := by
  rw [hasDot_true h]; exact hasDot_any s w hs
theorem dot_no (s : ByteArray) (w : World) (hs : s.size ≤ maxLen) (h : ¬ (46 : UInt8) ∈ s.data.toList) :
    Calls Trym.prog 8 #[.string s, .int .u8 46] w fun e w' => e = .returned (.bool false) ∧ w' = w := by
  rw [hasDot_false h]; exact hasDot_any s w hs

theorem app_data (a b : ByteArray) : (a ++ b).data.toList = a.data.toList ++ b.data.toList := by simp

theorem small {a b : ByteArray} (n : Nat) (ha : (a.size : Int) ≤ 1048576) (hb : b.size = n) (hn : n ≤ 1048576) : (a ++ b).size ≤ maxLen := by
  rw [ByteArray.size_append]; unfold maxLen; omega

/-! ### STEP 1: THE WALK: the Go text returns true. 'Grown w w'': the world has at most new blocks (Derived/RowKit3.lean). Part the cases AHEAD of 'go_enter' where a test parts the walk; take each callee by a contract of your own. -/
theorem walk (a0 : ByteArray) (a1 : ByteArray) (w0 : a0.size ≤ maxLen) (w1 : a1.size ≤ maxLen) (w : World) :
    Calls Trym.prog 3 #[.string a0, .string a1] w fun e w' => e = .returned (.bool true) ∧ Grown w w' := by
  by_cases hS : (a0.size : Int) + a1.size ≤ 1048576
  · by_cases hd : (46 : UInt8) ∈ a1.data.toList
    · have HD : Hid ((46 : UInt8) ∈ a1.data.toList) := hd
      clear hd
      go_enter Trym.func3, Trym.ntmps3
      go_wp2_with (first | (go_at_call 7; refine (bytes7_yes _ _ hS _).mono ?_; rintro e w' ⟨rfl, rfl⟩) | (go_at_call 8; refine (dot_yes _ _ w1 HD.out).mono ?_; rintro e w' ⟨rfl, rfl⟩))
      refine (zzres_at (res a1.data.toList) ?hs ?hr).mono ?_
      case hs => exact small a1.size (by omega) rfl (by omega)
      case hr => rw [app_data]; exact res_cut _ _ HD.out
      rintro e w' ⟨rfl, rfl⟩
      go_wp2_with fail
      refine (zzres_at (res a1.data.toList) ?hs ?hr).mono ?_
      case hs => exact w1
      case hr => rfl
      rintro e w' ⟨rfl, rfl⟩
      go_wp2_with fail
      refine (zzres_at true ?hs ?hr).mono ?_
      case hs => exact small 4 (by omega) rfl (by omega)
      case hr => rw [app_data]; exact res_yml _
      rintro e w' ⟨rfl, rfl⟩
      go_wp2_with fail
      refine (zzres_at true ?hs ?hr).mono ?_
      case hs => exact small 5 (by omega) rfl (by omega)
      case hr => rw [app_data]; exact res_yaml _
      rintro e w' ⟨rfl, rfl⟩
      go_wp2_with fail
      go_ret
      exact ⟨rfl, Grown.refl _⟩
    · have HD : Hid (¬ (46 : UInt8) ∈ a1.data.toList) := hd
      clear hd
      go_enter Trym.func3, Trym.ntmps3
      go_wp2_with (first | (go_at_call 7; refine (bytes7_yes _ _ hS _).mono ?_; rintro e w' ⟨rfl, rfl⟩) | (go_at_call 8; refine (dot_no _ _ w1 HD.out).mono ?_; rintro e w' ⟨rfl, rfl⟩))
      go_ret
      exact ⟨rfl, Grown.refl _⟩
  · go_enter Trym.func3, Trym.ntmps3
    go_wp2_with (go_at_call 7; refine (bytes7_no _ _ w0 w1 hS _).mono ?_; rintro e w' ⟨rfl, rfl⟩)
    go_ret
    exact ⟨rfl, Grown.refl _⟩

/-! ### THE ROW's STEP: WRITTEN OUT: LEAVE IT -/
set_option maxRecDepth 100000 in
theorem lifted (os : Os) (started : os.Started) (H : Type) (enc : TypeId × Value → H) :
    ReturnsInHanded {} Trym.checked os 3 .any (Rows.fnIsResourceFileCutKeepingTheDotSpec.pre6 enc Trym.prog Trym.f3 Rows.fnIsResourceFileCutKeepingTheDotRow.domain false) (Rows.fnIsResourceFileCutKeepingTheDotSpec.post enc Trym.prog Trym.f3 false true false false) := by
  refine returnsInHanded_of_change (C := Trym.checked) own started (by kernel_rfl) Trym.func3
    (ChangeSpec.witness6 (enc := enc) (C := Trym.checked) false ⟨#[], #[.string ByteArray.empty, .string ByteArray.empty], []⟩ 8 (by kernel_rfl) (by kernel_rfl) (by kernel_rfl) (by kernel_rfl)) ?_
  intro W base args ds gs before hval0 hW hcnd _
  have hval : ∀ (j : Nat) t v, Trym.f3.params[j]? = some t → args[j]? = some v → Value.okWide Trym.prog W .any base t v := hval0
  have hW' := hW
  obtain ⟨p, q, hA0, hV, rfl, hfz, hnd⟩ := hW
  have hA : DataW.TrodAll enc Trym.prog W 0 (fun _ => true) true Trym.f3.params.toList args.toList ds p := hA0
  rw [Trym.params3] at hA hval
  obtain ⟨v0, vs0, d0, ds0, p0, q0, hargs, rfl, rfl, h0, r0⟩ := trodAll_cons hA
  obtain ⟨v1, vs1, d1, ds1, p1, q1, rfl, rfl, rfl, h1, r1⟩ := trodAll_cons r0
  obtain ⟨rfl, rfl, rfl⟩ := trodAll_nil r1
  obtain rfl : args = #[v0, v1] := by cases args; simp_all
  obtain ⟨rfl, rfl⟩ := trodVars_none hV
  obtain ⟨a0, rfl, rfl, rfl, w0⟩ := open_string Trym.underlying9 (hval 0 9 v0 rfl rfl) h0
  obtain ⟨a1, rfl, rfl, rfl, w1⟩ := open_string Trym.underlying9 (hval 1 9 v1 rfl rfl) h1
  clear hA0 hval0
  simp only [List.append_nil] at hW'
  refine (walk a0 a1 w0 w1 W).mono fun e W' ⟨he, hg⟩ => ?_
  subst he
  exact ⟨_, rfl, post_of_same (pa := []) (pv := []) hW' (fun _ _ _ => (trodAll_cons_mk (shut_bool Trym.underlying4 _) trodAll_mk0)) (fun sp _ => (trodAll_cons_mk (shut_string Trym.underlying9 w0) (trodAll_cons_mk (shut_string Trym.underlying9 w1) trodAll_mk0))) (fun _ _ => rfl) rfl
    (hg.frame _) hg.2.1 (ok_one (by kernel_rfl) rfl (okWide_bool_mk Trym.underlying4 _))⟩

theorem over : Rows.fnIsResourceFileCutKeepingTheDotRow.holds Trym.pinned (OpenSpec.ofChange Rows.fnIsResourceFileCutKeepingTheDotSpec) :=
  OpenClaim.holds_of_wide 3 Trym.f3 rfl rfl rfl rfl rfl rfl rfl ⟨rfl, rfl, rfl, rfl, rfl⟩ rfl rfl rfl rfl rfl (by kernel_rfl) Trym.func3 (by kernel_rfl)
    (of_decide_eq_true (by kernel_rfl)) (by unfold Func.isWrapper; first | (rw [if_pos (by decide +kernel)]; kernel_rfl) | (rw [if_neg (by decide +kernel)]; exact ⟨rfl, rfl⟩))
    (fun os started H enc _ => lifted os started H enc)

/-- ████ THE STATEMENT ████ -/
theorem proved : Rows.FnIsResourceFileCutKeepingTheDotSaid :=
  over
#print axioms proved
end Go.Proofs.Qxb6613693aMods.fnIsResourceFileCutKeepingTheDot
