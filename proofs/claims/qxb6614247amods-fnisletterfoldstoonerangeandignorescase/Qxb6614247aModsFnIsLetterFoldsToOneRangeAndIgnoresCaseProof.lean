/-
  THE SHELL OF A PROOF OF 'Rows.FnIsLetterFoldsToOneRangeAndIgnoresCaseSaid' ('example.com/tidings/tidings/zzlaws_internal_fieldrules_b1.FnIsLetterFoldsToOneRangeAndIgnoresCase'), WRITTEN BY PROGRAM (proof-skeleton.mjs) off the guide's own print for that function. Not trusted: Lean checks it.
  THE WALK IS TYPED BY HAND. ALL ELSE IS THE GUIDE's TEMPLATE (howto/template/XProofs.lean) at this function's number and types: leave it.
-/
import Derived.Test.Qxb6614247aModsRows
import Derived.WalkKit
import Derived.ProofKit
import Derived.OpenShut
import Derived.Test.Qxb6614247aModsWalks
import Derived.ShutString
namespace Go.Proofs.Qxb6614247aMods.fnIsLetterFoldsToOneRangeAndIgnoresCase
open Go.ChangeShapes Go.WideShapes Go.ChangeAt Go.RowKit
open Go.ChangeMaps (open_string shut_string)
open walks
set_option linter.unusedVariables false      -- a walk need not use every 'w<i>' (that an integer argument fits its kind)

theorem own : ownKnob Trym.prog.godebug = none := by kernel_rfl

/-! ### THE PLAIN LAW, at each of the 256 bytes -/
def plainB (c : Int) : Bool :=
  (decide ((bits .or .u8 c 32 - 97) % 256 < 26) == letB c) && (letB (bits .xor .u8 c 32) == letB c) && (lowB (bits .or .u8 c 32) == letB c) && (!letB c || (lowB (bits .xor .u8 c 32) == !lowB c))

theorem plain_fin : ∀ n : Fin 256, plainB (n.val : Int) = true := by decide +kernel

theorem plain (c : Int) (h0 : 0 ≤ c) (h1 : c ≤ 255) : (decide ((bits .or .u8 c 32 - 97) % 256 < 26) = letB c) ∧ letB (bits .xor .u8 c 32) = letB c ∧ lowB (bits .or .u8 c 32) = letB c ∧ (letB c = true → lowB (bits .xor .u8 c 32) = !lowB c) := by
  have h := plain_fin ⟨c.toNat, by omega⟩
  rw [show ((c.toNat : Nat) : Int) = c from by omega] at h
  unfold plainB at h
  simp only [Bool.and_eq_true, beq_iff_eq, Bool.or_eq_true, Bool.not_eq_true'] at h
  exact ⟨h.1.1.1, h.1.1.2, h.1.2, fun x => by rcases h.2 with y | y; · rw [x] at y; cases y
                                              · exact y⟩

/-! ### STEP 1: THE WALK: the Go text returns true. 'Grown w w'': the world has at most new blocks (Derived/RowKit3.lean). Part the cases AHEAD of 'go_enter' where a test parts the walk; take each callee by a contract of your own. -/
theorem walk (a0 : Int) (w0 : (Lit.int .u8 a0).wf = true) (w : World) :
    Calls Trym.prog 3 #[.int .u8 a0] w fun e w' => e = .returned (.bool true) ∧ Grown w w' := by
  obtain ⟨b0, b1⟩ := bounds_u8 w0
  obtain ⟨p1, p2, p3, p4⟩ := plain a0 b0 b1
  cases hg : letB a0 with
  | true =>
    rw [hg] at p1 p2 p3
    have p5 := p4 hg
    have H1 : Hid (letB a0 = true) := hg
    have H2 : Hid (letB (bits .xor .u8 a0 32) = true) := p2
    have H3 : Hid (lowB (bits .or .u8 a0 32) = true) := p3
    have q1 : (bits .or .u8 a0 32 - 97) % 256 < 26 := of_decide_eq_true p1
    clear p1 p2 p3 p4 hg
    cases hl : lowB a0 with
    | true =>
      rw [hl] at p5
      have H4 : Hid (lowB a0 = true) := hl
      have H5 : Hid (lowB (bits .xor .u8 a0 32) = false) := p5
      clear p5 hl
      go_enter Trym.func3, Trym.ntmps3
      go_wp2_with fail
      refine (zzlet_at true ?hr).mono ?_
      case hr => exact H1.out
      rintro e w' ⟨rfl, rfl⟩
      go_wp2_with fail
      refine (zzlet_at true ?hr).mono ?_
      case hr => exact H2.out
      rintro e w' ⟨rfl, rfl⟩
      go_wp2_with fail
      refine (zzlow_at true ?hr).mono ?_
      case hr => exact H3.out
      rintro e w' ⟨rfl, rfl⟩
      go_wp2_with fail
      refine (zzlow_at true ?hr).mono ?_
      case hr => exact H4.out
      rintro e w' ⟨rfl, rfl⟩
      go_wp2_with fail
      refine (zzlow_at false ?hr).mono ?_
      case hr => exact H5.out
      rintro e w' ⟨rfl, rfl⟩
      go_wp2_with fail
      go_ret
      exact ⟨rfl, Grown.refl _⟩
    | false =>
      rw [hl] at p5
      have H4 : Hid (lowB a0 = false) := hl
      have H5 : Hid (lowB (bits .xor .u8 a0 32) = true) := p5
      clear p5 hl
      go_enter Trym.func3, Trym.ntmps3
      go_wp2_with fail
      refine (zzlet_at true ?hr).mono ?_
      case hr => exact H1.out
      rintro e w' ⟨rfl, rfl⟩
      go_wp2_with fail
      refine (zzlet_at true ?hr).mono ?_
      case hr => exact H2.out
      rintro e w' ⟨rfl, rfl⟩
      go_wp2_with fail
      refine (zzlow_at true ?hr).mono ?_
      case hr => exact H3.out
      rintro e w' ⟨rfl, rfl⟩
      go_wp2_with fail
      refine (zzlow_at false ?hr).mono ?_
      case hr => exact H4.out
      rintro e w' ⟨rfl, rfl⟩
      go_wp2_with fail
      refine (zzlow_at true ?hr).mono ?_
      case hr => exact H5.out
      rintro e w' ⟨rfl, rfl⟩
      go_wp2_with fail
      go_ret
      exact ⟨rfl, Grown.refl _⟩
  | false =>
    rw [hg] at p1 p2 p3
    have H1 : Hid (letB a0 = false) := hg
    have H2 : Hid (letB (bits .xor .u8 a0 32) = false) := p2
    have H3 : Hid (lowB (bits .or .u8 a0 32) = false) := p3
    have q1 : ¬ (bits .or .u8 a0 32 - 97) % 256 < 26 := of_decide_eq_false p1
    clear p1 p2 p3 p4 hg
    go_enter Trym.func3, Trym.ntmps3
    go_wp2_with fail
    refine (zzlet_at false ?hr).mono ?_
    case hr => exact H1.out
    rintro e w' ⟨rfl, rfl⟩
    go_wp2_with fail
    refine (zzlet_at false ?hr).mono ?_
    case hr => exact H2.out
    rintro e w' ⟨rfl, rfl⟩
    go_wp2_with fail
    refine (zzlow_at false ?hr).mono ?_
    case hr => exact H3.out
    rintro e w' ⟨rfl, rfl⟩
    go_wp2_with fail
    go_ret
    exact ⟨rfl, Grown.refl _⟩

/-! ### THE ROW's STEP: WRITTEN OUT: LEAVE IT -/
set_option maxRecDepth 100000 in
theorem lifted (os : Os) (started : os.Started) (H : Type) (enc : TypeId × Value → H) :
    ReturnsInHanded {} Trym.checked os 3 .any (Rows.fnIsLetterFoldsToOneRangeAndIgnoresCaseSpec.pre6 enc Trym.prog Trym.f3 Rows.fnIsLetterFoldsToOneRangeAndIgnoresCaseRow.domain false) (Rows.fnIsLetterFoldsToOneRangeAndIgnoresCaseSpec.post enc Trym.prog Trym.f3 false true false false) := by
  refine returnsInHanded_of_change (C := Trym.checked) own started (by kernel_rfl) Trym.func3
    (ChangeSpec.witness6 (enc := enc) (C := Trym.checked) false ⟨#[], #[.int .u8 0], []⟩ 8 (by kernel_rfl) (by kernel_rfl) (by kernel_rfl) (by kernel_rfl)) ?_
  intro W base args ds gs before hval0 hW hcnd _
  have hval : ∀ (j : Nat) t v, Trym.f3.params[j]? = some t → args[j]? = some v → Value.okWide Trym.prog W .any base t v := hval0
  have hW' := hW
  obtain ⟨p, q, hA0, hV, rfl, hfz, hnd⟩ := hW
  have hA : DataW.TrodAll enc Trym.prog W 0 (fun _ => true) true Trym.f3.params.toList args.toList ds p := hA0
  rw [Trym.params3] at hA hval
  obtain ⟨v0, vs0, d0, ds0, p0, q0, hargs, rfl, rfl, h0, r0⟩ := trodAll_cons hA
  obtain ⟨rfl, rfl, rfl⟩ := trodAll_nil r0
  obtain rfl : args = #[v0] := by cases args; simp_all
  obtain ⟨rfl, rfl⟩ := trodVars_none hV
  obtain ⟨a0, rfl, rfl, rfl, w0⟩ := open_int Trym.underlying5 (hval 0 5 v0 rfl rfl) h0
  clear hA0 hval0
  simp only [List.append_nil] at hW'
  refine (walk a0 w0 W).mono fun e W' ⟨he, hg⟩ => ?_
  subst he
  exact ⟨_, rfl, post_of_same (pa := []) (pv := []) hW' (fun _ _ _ => (trodAll_cons_mk (shut_bool Trym.underlying4 _) trodAll_mk0)) (fun sp _ => (trodAll_cons_mk (shut_int Trym.underlying5 w0) trodAll_mk0)) (fun _ _ => rfl) rfl
    (hg.frame _) hg.2.1 (ok_one (by kernel_rfl) rfl (okWide_bool_mk Trym.underlying4 _))⟩

theorem over : Rows.fnIsLetterFoldsToOneRangeAndIgnoresCaseRow.holds Trym.pinned (OpenSpec.ofChange Rows.fnIsLetterFoldsToOneRangeAndIgnoresCaseSpec) :=
  OpenClaim.holds_of_wide 3 Trym.f3 rfl rfl rfl rfl rfl rfl rfl ⟨rfl, rfl, rfl, rfl, rfl⟩ rfl rfl rfl rfl rfl (by kernel_rfl) Trym.func3 (by kernel_rfl)
    (of_decide_eq_true (by kernel_rfl)) (by unfold Func.isWrapper; first | (rw [if_pos (by decide +kernel)]; kernel_rfl) | (rw [if_neg (by decide +kernel)]; exact ⟨rfl, rfl⟩))
    (fun os started H enc _ => lifted os started H enc)

/-- ████ THE STATEMENT ████ -/
theorem proved : Rows.FnIsLetterFoldsToOneRangeAndIgnoresCaseSaid :=
  over
#print axioms proved
end Go.Proofs.Qxb6614247aMods.fnIsLetterFoldsToOneRangeAndIgnoresCase
