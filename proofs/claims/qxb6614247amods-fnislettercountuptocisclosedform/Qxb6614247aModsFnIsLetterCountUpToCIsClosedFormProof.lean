/-
  THE SHELL OF A PROOF OF 'Rows.FnIsLetterCountUpToCIsClosedFormSaid' ('example.com/tidings/tidings/zzlaws_internal_fieldrules_b1.FnIsLetterCountUpToCIsClosedForm'), WRITTEN BY PROGRAM (proof-skeleton.mjs) off the guide's own print for that function. Not trusted: Lean checks it.
  THE WALK IS TYPED BY HAND. ALL ELSE IS THE GUIDE's TEMPLATE (howto/template/XProofs.lean) at this function's number and types: leave it.
-/
import Derived.Test.Qxb6614247aModsRows
import Derived.WalkKit
import Derived.ProofKit
import Derived.OpenShut
import Derived.Test.Qxb6614247aModsWalks
import Derived.ShutString
namespace Go.Proofs.Qxb6614247aMods.fnIsLetterCountUpToCIsClosedForm
open Go.ChangeShapes Go.WideShapes Go.ChangeAt Go.RowKit
open Go.ChangeMaps (open_string shut_string)
open walks
set_option linter.unusedVariables false      -- a walk need not use every 'w<i>' (that an integer argument fits its kind)

theorem own : ownKnob Trym.prog.godebug = none := by kernel_rfl

/-! ### THE PLAIN LAW -/
/-- How many of the bytes 0 .. k-1 are letters. -/
def cnt : Nat → Int
  | 0 => 0
  | k + 1 => cnt k + if letB (k : Int) then 1 else 0

def clampI (n : Int) : Int := if n < 0 then 0 else if 26 < n then 26 else n

theorem cnt_bd (k : Nat) : 0 ≤ cnt k ∧ cnt k ≤ k := by
  induction k with
  | zero => exact ⟨Int.le_refl _, Int.le_refl _⟩
  | succ k ih =>
    unfold cnt
    cases letB (k : Int) <;> simp <;> omega

theorem clamp_bd (n : Int) : 0 ≤ clampI n ∧ clampI n ≤ 26 := by
  unfold clampI
  by_cases h : n < 0
  · rw [if_pos h]; omega
  · rw [if_neg h]
    by_cases k : 26 < n
    · rw [if_pos k]; omega
    · rw [if_neg k]; omega

theorem cnt_yes {k : Nat} (h : letB (k : Int) = true) : cnt (k + 1) = cnt k + 1 := by
  show cnt k + (if letB (k : Int) then 1 else 0) = cnt k + 1
  rw [h]; rfl
theorem cnt_no {k : Nat} (h : letB (k : Int) = false) : cnt (k + 1) = cnt k := by
  show cnt k + (if letB (k : Int) then 1 else 0) = cnt k
  rw [h]; simp

theorem closed_fin : ∀ n : Fin 256, (cnt (n.val + 1) == clampI ((n.val : Int) - 65 + 1) + clampI ((n.val : Int) - 97 + 1)) = true := by decide +kernel

theorem closed (c : Int) (k : Nat) (h0 : 0 ≤ c) (h1 : c ≤ 255) (hk : (k : Int) = c + 1) : (cnt k == clampI (c - 65 + 1) + clampI (c - 97 + 1)) = true := by
  have h := closed_fin ⟨c.toNat, by omega⟩
  rw [show ((c.toNat : Nat) : Int) = c from by omega, show c.toNat + 1 = k from by omega] at h
  exact h

theorem ret_int {k : IntKind} {a b : Int} (h : a = b) : Ending.returned (.int k a) = .returned (.int k b) := by rw [h]

theorem clamp_any (n : Int) (w : World) :
    Calls Trym.prog 10 #[.int .i64 n] w fun e w' => e = .returned (.int .i64 (clampI n)) ∧ w' = w := by
  by_cases h : n < 0
  · go_enter Trym.func10, Trym.ntmps10
    go_wp2
    go_ret
    exact ⟨ret_int (by unfold clampI; rw [if_pos h]), rfl⟩
  · by_cases k : 26 < n
    · go_enter Trym.func10, Trym.ntmps10
      go_wp2
      go_ret
      exact ⟨ret_int (by unfold clampI; rw [if_neg (by omega), if_pos k]), rfl⟩
    · go_enter Trym.func10, Trym.ntmps10
      go_wp2
      go_ret
      exact ⟨ret_int (by unfold clampI; rw [if_neg (by omega), if_neg (by omega)]), rfl⟩

/-! ### STEP 1: THE WALK: the Go text returns true. 'Grown w w'': the world has at most new blocks (Derived/RowKit3.lean). Part the cases AHEAD of 'go_enter' where a test parts the walk; take each callee by a contract of your own. -/
theorem walk (a0 : Int) (w0 : (Lit.int .u8 a0).wf = true) (w : World) :
    Calls Trym.prog 4 #[.int .u8 a0] w fun e w' => e = .returned (.bool true) ∧ Grown w w' := by
  obtain ⟨b0, b1⟩ := bounds_u8 w0
  clear w0
  go_enter Trym.func4, Trym.ntmps4
  go_wp2
  go_loop [3, 4] (fun n i => ∃ k : Nat, (k : Int) ≤ a0 + 1 ∧ i = .int .i64 k ∧ n = .int .i64 (cnt k)) (fun _ i => (a0 + 1 - intOf i).toNat)
  case atStart => exact ⟨0, by omega, rfl, rfl⟩
  case round =>
    obtain ⟨k, hk, rfl, rfl⟩ := hrel
    have hb := cnt_bd k
    by_cases hlt : (k : Int) ≤ a0
    · cases hl : letB (k : Int) with
      | true =>
        have HL : Hid (cnt (k + 1) = cnt k + 1) := cnt_yes hl
        have H1 : Hid (letB (k : Int) = true) := hl
        clear hl
        go_wp2_with fail
        refine (zzlet_at true ?hr).mono ?_
        case hr => exact H1.out
        rintro e w' ⟨rfl, rfl⟩
        go_wp2_with fail
        case roundEnd =>
          exact ⟨⟨k + 1, by omega, by go_num, by rw [HL.out]⟩, by simp [intOf]; omega⟩
      | false =>
        have HL : Hid (cnt (k + 1) = cnt k) := cnt_no hl
        have H1 : Hid (letB (k : Int) = false) := hl
        clear hl
        go_wp2_with fail
        refine (zzlet_at false ?hr).mono ?_
        case hr => exact H1.out
        rintro e w' ⟨rfl, rfl⟩
        go_wp2_with fail
        case roundEnd =>
          exact ⟨⟨k + 1, by omega, by go_num, by rw [HL.out]⟩, by simp [intOf]; omega⟩
    · have HC : Hid ((cnt k == clampI (a0 - 65 + 1) + clampI (a0 - 97 + 1)) = true) := closed a0 k b0 b1 (by omega)
      have c1 := clamp_bd (a0 - 65 + 1)
      have c2 := clamp_bd (a0 - 97 + 1)
      go_wp2_with fail
      refine (clamp_any _ _).mono ?_
      rintro e w' ⟨rfl, rfl⟩
      go_wp2_with fail
      refine (clamp_any _ _).mono ?_
      rintro e w' ⟨rfl, rfl⟩
      go_wp2_with fail
      go_ret
      exact ⟨ret_bool HC.out, Grown.refl _⟩

/-! ### THE ROW's STEP: WRITTEN OUT: LEAVE IT -/
set_option maxRecDepth 100000 in
theorem lifted (os : Os) (started : os.Started) (H : Type) (enc : TypeId × Value → H) :
    ReturnsInHanded {} Trym.checked os 4 .any (Rows.fnIsLetterCountUpToCIsClosedFormSpec.pre6 enc Trym.prog Trym.f4 Rows.fnIsLetterCountUpToCIsClosedFormRow.domain false) (Rows.fnIsLetterCountUpToCIsClosedFormSpec.post enc Trym.prog Trym.f4 false true false false) := by
  refine returnsInHanded_of_change (C := Trym.checked) own started (by kernel_rfl) Trym.func4
    (ChangeSpec.witness6 (enc := enc) (C := Trym.checked) false ⟨#[], #[.int .u8 0], []⟩ 8 (by kernel_rfl) (by kernel_rfl) (by kernel_rfl) (by kernel_rfl)) ?_
  intro W base args ds gs before hval0 hW hcnd _
  have hval : ∀ (j : Nat) t v, Trym.f4.params[j]? = some t → args[j]? = some v → Value.okWide Trym.prog W .any base t v := hval0
  have hW' := hW
  obtain ⟨p, q, hA0, hV, rfl, hfz, hnd⟩ := hW
  have hA : DataW.TrodAll enc Trym.prog W 0 (fun _ => true) true Trym.f4.params.toList args.toList ds p := hA0
  rw [Trym.params4] at hA hval
  obtain ⟨v0, vs0, d0, ds0, p0, q0, hargs, rfl, rfl, h0, r0⟩ := trodAll_cons hA
  obtain ⟨rfl, rfl, rfl⟩ := trodAll_nil r0
  obtain rfl : args = #[v0] := by cases args; simp_all
  obtain ⟨rfl, rfl⟩ := trodVars_none hV
  obtain ⟨a0, rfl, rfl, rfl, w0⟩ := open_int Trym.underlying5 (hval 0 5 v0 rfl rfl) h0
  clear hA0 hval0
  simp only [List.append_nil] at hW'
  refine (walk a0 w0 W).mono fun e W' ⟨he, hg⟩ => ?_
  subst he
  exact ⟨_, rfl, post_of_same (pa := []) (pv := []) hW' (fun _ _ _ => (trodAll_cons_mk (shut_bool Trym.underlying4 _) trodAll_mk0)) (fun sp _ => (trodAll_cons_mk (shut_int Trym.underlying5 w0) trodAll_mk0)) (fun _ _ => rfl) rfl
    (hg.frame _) hg.2.1 (ok_one (by kernel_rfl) rfl (okWide_bool_mk Trym.underlying4 _))⟩

theorem over : Rows.fnIsLetterCountUpToCIsClosedFormRow.holds Trym.pinned (OpenSpec.ofChange Rows.fnIsLetterCountUpToCIsClosedFormSpec) :=
  OpenClaim.holds_of_wide 4 Trym.f4 rfl rfl rfl rfl rfl rfl rfl ⟨rfl, rfl, rfl, rfl, rfl⟩ rfl rfl rfl rfl rfl (by kernel_rfl) Trym.func4 (by kernel_rfl)
    (of_decide_eq_true (by kernel_rfl)) (by unfold Func.isWrapper; first | (rw [if_pos (by decide +kernel)]; kernel_rfl) | (rw [if_neg (by decide +kernel)]; exact ⟨rfl, rfl⟩))
    (fun os started H enc _ => lifted os started H enc)

/-- ████ THE STATEMENT ████ -/
theorem proved : Rows.FnIsLetterCountUpToCIsClosedFormSaid :=
  over
#print axioms proved
end Go.Proofs.Qxb6614247aMods.fnIsLetterCountUpToCIsClosedForm
