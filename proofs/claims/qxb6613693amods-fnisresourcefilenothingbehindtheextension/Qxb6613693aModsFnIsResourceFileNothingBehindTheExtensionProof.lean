/-
  THE SHELL OF A PROOF OF 'Rows.FnIsResourceFileNothingBehindTheExtensionSaid' ('example.com/hostloom/hostloom/zzlaws_pkg_resource_b1.FnIsResourceFileNothingBehindTheExtension'), WRITTEN BY PROGRAM (proof-skeleton.mjs) off the guide's own print for that function. Not trusted: Lean checks it.
  THE WALK IS TYPED BY HAND. ALL ELSE IS THE GUIDE's TEMPLATE (howto/template/XProofs.lean) at this function's number and types: leave it.
-/
import Derived.Test.Qxb6613693aModsRows
import Derived.WalkKit
import Derived.ProofKit
import Derived.OpenShut
import Derived.Laws.BytesArg
import Derived.Test.Qxb6613693aModsWalks
import Derived.ShutString
namespace Go.Proofs.Qxb6613693aMods.fnIsResourceFileNothingBehindTheExtension
open Go.ChangeShapes Go.WideShapes Go.ChangeAt Go.RowKit
open Go.ChangeMaps (open_string shut_string)
open walks
set_option linter.unusedVariables false      -- a walk need not use every 'w<i>' (that an integer argument fits its kind)

theorem own : ownKnob Trym.prog.godebug = none := by kernel_rfl

/-! ### 'string([]byte{c})' -/
def one (c : Int) : ByteArray := ⟨#[UInt8.ofNat c.toNat]⟩

theorem conv_one (c : Int) (v : World) : (convert 25 9 (.slice (some ⟨v.heap.size, 0, none⟩) 1 1)).run Trym.prog (v.alloc (.cells #[.int .u8 c] 5)) = .ok (.string (one c)) (v.alloc (.cells #[.int .u8 c] 5)) := by
  refine run_convert_bytes_arg (P := Trym.prog) (v.alloc (.cells #[.int .u8 c] 5)) 25 5 Trym.underlying25 Trym.underlying5 v.heap.size 0 1 1 [c] rfl ?_ 9 Trym.underlying9
  intro i hi
  obtain rfl : i = 0 := by omega
  simp [go_sem]

theorem app_data (a b : ByteArray) : (a ++ b).data.toList = a.data.toList ++ b.data.toList := by simp
theorem one_data (c : Int) : (one c).data.toList = [UInt8.ofNat c.toNat] := rfl
theorem one_size (c : Int) : (one c).size = 1 := rfl

theorem small {a b : ByteArray} (n : Nat) (ha : (a.size : Int) ≤ 1048576) (hb : b.size = n) (hn : n ≤ 10) : (a ++ b).size ≤ maxLen := by
  rw [ByteArray.size_append]; unfold maxLen; omega
theorem small_one {a b : ByteArray} (c : Int) (n : Nat) (ha : (a.size : Int) ≤ 1048576) (hb : b.size = n) (hn : n ≤ 10) : (a ++ b ++ one c).size ≤ maxLen := by
  rw [ByteArray.size_append, ByteArray.size_append, one_size]; unfold maxLen; omega

/-! ### STEP 1: THE WALK: the Go text returns true. 'Grown w w'': the world has at most new blocks (Derived/RowKit3.lean). Part the cases AHEAD of 'go_enter' where a test parts the walk; take each callee by a contract of your own. -/
theorem walk (a0 : ByteArray) (a1 : Int) (w0 : a0.size ≤ maxLen) (w1 : (Lit.int .u8 a1).wf = true) (w : World) :
    Calls Trym.prog 4 #[.string a0, .int .u8 a1] w fun e w' => e = .returned (.bool true) ∧ Grown w w' := by
  have hcv := conv_one a1
  have hos := one_size a1
  by_cases hS : (a0.size : Int) ≤ 1048576
  · go_enter Trym.func4, Trym.ntmps4
    go_wp2_with (go_at_call 10; refine (bytes10_yes _ _ hS _).mono ?_; rintro e w' ⟨rfl, rfl⟩)
    refine (zzres_at true ?hs ?hr).mono ?_
    case hs => exact small 5 hS rfl (by omega)
    case hr => rw [app_data]; exact res_yaml _
    rintro e w' ⟨rfl, rfl⟩
    go_wp2_with fail
    refine (zzres_at true ?hs ?hr).mono ?_
    case hs => exact small 4 hS rfl (by omega)
    case hr => rw [app_data]; exact res_yml _
    rintro e w' ⟨rfl, rfl⟩
    go_wp2_with fail
    refine (zzres_at false ?hs ?hr).mono ?_
    case hs => exact small 5 hS rfl (by omega)
    case hr => rw [app_data]; exact res_YAML _
    rintro e w' ⟨rfl, rfl⟩
    go_wp2_with fail
    refine (zzres_at false ?hs ?hr).mono ?_
    case hs => exact small_one a1 5 hS rfl (by omega)
    case hr => rw [app_data, app_data, one_data]; exact res_yaml_more _ _
    rintro e w' ⟨rfl, rfl⟩
    go_wp2_with fail
    refine (zzres_at false ?hs ?hr).mono ?_
    case hs => exact small_one a1 4 hS rfl (by omega)
    case hr => rw [app_data, app_data, one_data]; exact res_yml_more _ _
    rintro e w' ⟨rfl, rfl⟩
    go_wp2_with fail
    go_ret
    exact ⟨rfl, (Grown.refl _).alloc _ _⟩
  · go_enter Trym.func4, Trym.ntmps4
    go_wp2_with (go_at_call 10; refine (bytes10_no _ _ hS _).mono ?_; rintro e w' ⟨rfl, rfl⟩)
    go_ret
    exact ⟨rfl, Grown.refl _⟩

/-! ### THE ROW's STEP: WRITTEN OUT: LEAVE IT -/
set_option maxRecDepth 100000 in
theorem lifted (os : Os) (started : os.Started) (H : Type) (enc : TypeId × Value → H) :
    ReturnsInHanded {} Trym.checked os 4 .any (Rows.fnIsResourceFileNothingBehindTheExtensionSpec.pre6 enc Trym.prog Trym.f4 Rows.fnIsResourceFileNothingBehindTheExtensionRow.domain false) (Rows.fnIsResourceFileNothingBehindTheExtensionSpec.post enc Trym.prog Trym.f4 false true false false) := by
  refine returnsInHanded_of_change (C := Trym.checked) own started (by kernel_rfl) Trym.func4
    (ChangeSpec.witness6 (enc := enc) (C := Trym.checked) false ⟨#[], #[.string ByteArray.empty, .int .u8 0], []⟩ 8 (by kernel_rfl) (by kernel_rfl) (by kernel_rfl) (by kernel_rfl)) ?_
  intro W base args ds gs before hval0 hW hcnd _
  have hval : ∀ (j : Nat) t v, Trym.f4.params[j]? = some t → args[j]? = some v → Value.okWide Trym.prog W .any base t v := hval0
  have hW' := hW
  obtain ⟨p, q, hA0, hV, rfl, hfz, hnd⟩ := hW
  have hA : DataW.TrodAll enc Trym.prog W 0 (fun _ => true) true Trym.f4.params.toList args.toList ds p := hA0
  rw [Trym.params4] at hA hval
  obtain ⟨v0, vs0, d0, ds0, p0, q0, hargs, rfl, rfl, h0, r0⟩ := trodAll_cons hA
  obtain ⟨v1, vs1, d1, ds1, p1, q1, rfl, rfl, rfl, h1, r1⟩ := trodAll_cons r0
  obtain ⟨rfl, rfl, rfl⟩ := trodAll_nil r1
  obtain rfl : args = #[v0, v1] := by cases args; simp_all
  obtain ⟨rfl, rfl⟩ := trodVars_none hV
  obtain ⟨a0, rfl, rfl, rfl, w0⟩ := open_string Trym.underlying9 (hval 0 9 v0 rfl rfl) h0
  obtain ⟨a1, rfl, rfl, rfl, w1⟩ := open_int Trym.underlying5 (hval 1 5 v1 rfl rfl) h1
  clear hA0 hval0
  simp only [List.append_nil] at hW'
  refine (walk a0 a1 w0 w1 W).mono fun e W' ⟨he, hg⟩ => ?_
  subst he
  exact ⟨_, rfl, post_of_same (pa := []) (pv := []) hW' (fun _ _ _ => (trodAll_cons_mk (shut_bool Trym.underlying4 _) trodAll_mk0)) (fun sp _ => (trodAll_cons_mk (shut_string Trym.underlying9 w0) (trodAll_cons_mk (shut_int Trym.underlying5 w1) trodAll_mk0))) (fun _ _ => rfl) rfl
    (hg.frame _) hg.2.1 (ok_one (by kernel_rfl) rfl (okWide_bool_mk Trym.underlying4 _))⟩

theorem over : Rows.fnIsResourceFileNothingBehindTheExtensionRow.holds Trym.pinned (OpenSpec.ofChange Rows.fnIsResourceFileNothingBehindTheExtensionSpec) :=
  OpenClaim.holds_of_wide 4 Trym.f4 rfl rfl rfl rfl rfl rfl rfl ⟨rfl, rfl, rfl, rfl, rfl⟩ rfl rfl rfl rfl rfl (by kernel_rfl) Trym.func4 (by kernel_rfl)
    (of_decide_eq_true (by kernel_rfl)) (by unfold Func.isWrapper; first | (rw [if_pos (by decide +kernel)]; kernel_rfl) | (rw [if_neg (by decide +kernel)]; exact ⟨rfl, rfl⟩))
    (fun os started H enc _ => lifted os started H enc)

/-- ████ THE STATEMENT ████ -/
theorem proved : Rows.FnIsResourceFileNothingBehindTheExtensionSaid :=
  over
#print axioms proved
end Go.Proofs.Qxb6613693aMods.fnIsResourceFileNothingBehindTheExtension
