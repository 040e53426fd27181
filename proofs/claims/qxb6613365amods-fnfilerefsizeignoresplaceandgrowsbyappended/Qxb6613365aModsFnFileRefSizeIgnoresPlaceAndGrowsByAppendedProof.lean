/-
  THE SHELL OF A PROOF OF 'Rows.FnFileRefSizeIgnoresPlaceAndGrowsByAppendedSaid' ('example.com/testament/testament/zzlaws_internal_store_b1.FnFileRefSizeIgnoresPlaceAndGrowsByAppended'), WRITTEN BY PROGRAM (proof-skeleton.mjs) off the guide's own print for that function. Not trusted: Lean checks it.
  THE WALK IS TYPED BY HAND. ALL ELSE IS THE GUIDE's TEMPLATE (howto/template/XProofs.lean) at this function's number and types: leave it.
-/
import Derived.Test.Qxb6613365aModsRows
import Derived.WalkKit
import Derived.ProofKit
import Derived.OpenShut
import Derived.ShutString
import Derived.Test.Qxb6613365aModsWalks
namespace Go.Proofs.Qxb6613365aMods.fnFileRefSizeIgnoresPlaceAndGrowsByAppended
open Go.ChangeShapes Go.WideShapes Go.ChangeAt Go.RowKit
open Go.ChangeMaps (open_string shut_string)
open walks
set_option linter.unusedVariables false      -- a walk need not use every 'w<i>' (that an integer argument fits its kind)

theorem own : ownKnob Trym.prog.godebug = none := by kernel_rfl

/-! ### THE GUARD's CONTRACT: do the five lengths sum to at most 1048576? -/
theorem bytes7_yes (a0 a1 a2 a3 : ByteArray) (x y : Int) (b : Bool) (u v : Int) (a9 : ByteArray) (h : (a0.size : Int) + a1.size + a2.size + a3.size + a9.size ≤ 1048576) (w : World) :
    Calls Trym.prog 7 #[.string a0, .string a1, .string a2, .string a3, .int .i64 x, .int .i64 y, .bool b, .int .i64 u, .int .i64 v, .string a9] w fun e w' => e = .returned (.bool true) ∧ w' = w := by
  go_enter Trym.func7, Trym.ntmps7
  go_wp2
  go_ret
  exact ⟨rfl, rfl⟩

theorem bytes7_no (a0 a1 a2 a3 : ByteArray) (x y : Int) (b : Bool) (u v : Int) (a9 : ByteArray) (w0 : a0.size ≤ maxLen) (w1 : a1.size ≤ maxLen) (w2 : a2.size ≤ maxLen) (w3 : a3.size ≤ maxLen) (w9 : a9.size ≤ maxLen) (h : ¬ (a0.size : Int) + a1.size + a2.size + a3.size + a9.size ≤ 1048576) (w : World) :
    Calls Trym.prog 7 #[.string a0, .string a1, .string a2, .string a3, .int .i64 x, .int .i64 y, .bool b, .int .i64 u, .int .i64 v, .string a9] w fun e w' => e = .returned (.bool false) ∧ w' = w := by
  unfold maxLen at w0 w1 w2 w3 w9
  go_enter Trym.func7, Trym.ntmps7
  go_wp2
  all_goals
    go_ret
    exact ⟨rfl, rfl⟩

/-! ### STEP 1: THE WALK: the Go text returns true. 'Grown w w'': the world has at most new blocks (Derived/RowKit3.lean). Part the cases AHEAD of 'go_enter' where a test parts the walk; take each callee by a contract of your own. -/
set_option maxHeartbeats 1000000 in
theorem walk (a0 : ByteArray) (a1 : ByteArray) (a2 : ByteArray) (a3 : ByteArray) (a4 : Int) (a5 : Int) (a6 : Bool) (a7 : Int) (a8 : Int) (a9 : ByteArray) (w0 : a0.size ≤ maxLen) (w1 : a1.size ≤ maxLen) (w2 : a2.size ≤ maxLen) (w3 : a3.size ≤ maxLen) (w4 : (Lit.int .i64 a4).wf = true) (w5 : (Lit.int .i64 a5).wf = true) (w7 : (Lit.int .i64 a7).wf = true) (w8 : (Lit.int .i64 a8).wf = true) (w9 : a9.size ≤ maxLen) (w : World) :
    Calls Trym.prog 4 #[.string a0, .string a1, .string a2, .string a3, .int .i64 a4, .int .i64 a5, .bool a6, .int .i64 a7, .int .i64 a8, .string a9] w fun e w' => e = .returned (.bool true) ∧ Grown w w' := by
  by_cases hS : (a0.size : Int) + a1.size + a2.size + a3.size + a9.size ≤ 1048576
  · by_cases h0 : (a0.size : Int) ≤ 131072
    · by_cases h1 : (a1.size : Int) ≤ 131072
      · by_cases h2 : (a2.size : Int) ≤ 131072
        · by_cases h3 : (a3.size : Int) ≤ 131072
          · by_cases h9 : (a9.size : Int) ≤ 131072
            · go_enter Trym.func4, Trym.ntmps4
              go_wp2_with (first | (go_at_call 7; refine (bytes7_yes _ _ _ _ _ _ _ _ _ _ hS _).mono ?_; rintro e w' ⟨rfl, rfl⟩))
              refine (ref_at (64 + (a0.size : Int) + a1.size + a2.size + a3.size) (Grown.refl _) (by omega) (by omega) (by omega) (by omega) (by omega)).mono ?_
              rintro e wa ⟨rfl, ha⟩
              go_wp2_with fail
              refine (ref_at (64 + (a0.size : Int) + a1.size + a2.size + a3.size) ha (by omega) (by omega) (by omega) (by omega) (by omega)).mono ?_
              rintro e wb ⟨rfl, hb⟩
              go_wp2_with fail
              refine (ref_at (64 + (a0.size : Int) + a1.size + a2.size + a3.size + a9.size) hb (by simp only [ByteArray.size_append]; omega) (by omega) (by omega) (by omega) (by simp only [ByteArray.size_append]; omega)).mono ?_
              rintro e wc ⟨rfl, hc⟩
              go_wp2_with fail
              refine (ref_at (64 + (a0.size : Int) + a1.size + a2.size + a3.size + a9.size) hc (by omega) (by simp only [ByteArray.size_append]; omega) (by omega) (by omega) (by simp only [ByteArray.size_append]; omega)).mono ?_
              rintro e wd ⟨rfl, hd⟩
              go_wp2_with fail
              refine (ref_at (64 + (a0.size : Int) + a1.size + a2.size + a3.size + a9.size) hd (by omega) (by omega) (by simp only [ByteArray.size_append]; omega) (by omega) (by simp only [ByteArray.size_append]; omega)).mono ?_
              rintro e wf ⟨rfl, hf⟩
              go_wp2_with fail
              refine (ref_at (64 + (a0.size : Int) + a1.size + a2.size + a3.size + a9.size) hf (by omega) (by omega) (by omega) (by simp only [ByteArray.size_append]; omega) (by simp only [ByteArray.size_append]; omega)).mono ?_
              rintro e wg ⟨rfl, hg⟩
              go_wp2_with fail
              go_ret
              exact ⟨rfl, hg⟩
            · go_enter Trym.func4, Trym.ntmps4
              go_wp2_with (first | (go_at_call 7; refine (bytes7_yes _ _ _ _ _ _ _ _ _ _ hS _).mono ?_; rintro e w' ⟨rfl, rfl⟩))
              go_ret
              exact ⟨rfl, Grown.refl _⟩
          · go_enter Trym.func4, Trym.ntmps4
            go_wp2_with (first | (go_at_call 7; refine (bytes7_yes _ _ _ _ _ _ _ _ _ _ hS _).mono ?_; rintro e w' ⟨rfl, rfl⟩))
            go_ret
            exact ⟨rfl, Grown.refl _⟩
        · go_enter Trym.func4, Trym.ntmps4
          go_wp2_with (first | (go_at_call 7; refine (bytes7_yes _ _ _ _ _ _ _ _ _ _ hS _).mono ?_; rintro e w' ⟨rfl, rfl⟩))
          go_ret
          exact ⟨rfl, Grown.refl _⟩
      · go_enter Trym.func4, Trym.ntmps4
        go_wp2_with (first | (go_at_call 7; refine (bytes7_yes _ _ _ _ _ _ _ _ _ _ hS _).mono ?_; rintro e w' ⟨rfl, rfl⟩))
        go_ret
        exact ⟨rfl, Grown.refl _⟩
    · go_enter Trym.func4, Trym.ntmps4
      go_wp2_with (first | (go_at_call 7; refine (bytes7_yes _ _ _ _ _ _ _ _ _ _ hS _).mono ?_; rintro e w' ⟨rfl, rfl⟩))
      go_ret
      exact ⟨rfl, Grown.refl _⟩
  · go_enter Trym.func4, Trym.ntmps4
    go_wp2_with (first | (go_at_call 7; refine (bytes7_no _ _ _ _ _ _ _ _ _ _ w0 w1 w2 w3 w9 hS _).mono ?_; rintro e w' ⟨rfl, rfl⟩))
    go_ret
    exact ⟨rfl, Grown.refl _⟩

/-! ### THE ROW's STEP: WRITTEN OUT: LEAVE IT -/
set_option maxRecDepth 100000 in
theorem lifted (os : Os) (started : os.Started) (H : Type) (enc : TypeId × Value → H) :
    ReturnsInHanded {} Trym.checked os 4 .any (Rows.fnFileRefSizeIgnoresPlaceAndGrowsByAppendedSpec.pre6 enc Trym.prog Trym.f4 Rows.fnFileRefSizeIgnoresPlaceAndGrowsByAppendedRow.domain false) (Rows.fnFileRefSizeIgnoresPlaceAndGrowsByAppendedSpec.post enc Trym.prog Trym.f4 false true false false) := by
  refine returnsInHanded_of_change (C := Trym.checked) own started (by kernel_rfl) Trym.func4
    (ChangeSpec.witness6 (enc := enc) (C := Trym.checked) false ⟨#[], #[.string ByteArray.empty, .string ByteArray.empty, .string ByteArray.empty, .string ByteArray.empty, .int .i64 0, .int .i64 0, .bool false, .int .i64 0, .int .i64 0, .string ByteArray.empty], []⟩ 8 (by kernel_rfl) (by kernel_rfl) (by kernel_rfl) (by kernel_rfl)) ?_
  intro W base args ds gs before hval0 hW hcnd _
  have hval : ∀ (j : Nat) t v, Trym.f4.params[j]? = some t → args[j]? = some v → Value.okWide Trym.prog W .any base t v := hval0
  have hW' := hW
  obtain ⟨p, q, hA0, hV, rfl, hfz, hnd⟩ := hW
  have hA : DataW.TrodAll enc Trym.prog W 0 (fun _ => true) true Trym.f4.params.toList args.toList ds p := hA0
  rw [Trym.params4] at hA hval
  obtain ⟨v0, vs0, d0, ds0, p0, q0, hargs, rfl, rfl, h0, r0⟩ := trodAll_cons hA
  obtain ⟨v1, vs1, d1, ds1, p1, q1, rfl, rfl, rfl, h1, r1⟩ := trodAll_cons r0
  obtain ⟨v2, vs2, d2, ds2, p2, q2, rfl, rfl, rfl, h2, r2⟩ := trodAll_cons r1
  obtain ⟨v3, vs3, d3, ds3, p3, q3, rfl, rfl, rfl, h3, r3⟩ := trodAll_cons r2
  obtain ⟨v4, vs4, d4, ds4, p4, q4, rfl, rfl, rfl, h4, r4⟩ := trodAll_cons r3
  obtain ⟨v5, vs5, d5, ds5, p5, q5, rfl, rfl, rfl, h5, r5⟩ := trodAll_cons r4
  obtain ⟨v6, vs6, d6, ds6, p6, q6, rfl, rfl, rfl, h6, r6⟩ := trodAll_cons r5
  obtain ⟨v7, vs7, d7, ds7, p7, q7, rfl, rfl, rfl, h7, r7⟩ := trodAll_cons r6
  obtain ⟨v8, vs8, d8, ds8, p8, q8, rfl, rfl, rfl, h8, r8⟩ := trodAll_cons r7
  obtain ⟨v9, vs9, d9, ds9, p9, q9, rfl, rfl, rfl, h9, r9⟩ := trodAll_cons r8
  obtain ⟨rfl, rfl, rfl⟩ := trodAll_nil r9
  obtain rfl : args = #[v0, v1, v2, v3, v4, v5, v6, v7, v8, v9] := by cases args; simp_all
  obtain ⟨rfl, rfl⟩ := trodVars_none hV
  obtain ⟨a0, rfl, rfl, rfl, w0⟩ := open_string Trym.underlying9 (hval 0 9 v0 rfl rfl) h0
  obtain ⟨a1, rfl, rfl, rfl, w1⟩ := open_string Trym.underlying9 (hval 1 9 v1 rfl rfl) h1
  obtain ⟨a2, rfl, rfl, rfl, w2⟩ := open_string Trym.underlying9 (hval 2 9 v2 rfl rfl) h2
  obtain ⟨a3, rfl, rfl, rfl, w3⟩ := open_string Trym.underlying9 (hval 3 9 v3 rfl rfl) h3
  obtain ⟨a4, rfl, rfl, rfl, w4⟩ := open_int Trym.underlying2 (hval 4 2 v4 rfl rfl) h4
  obtain ⟨a5, rfl, rfl, rfl, w5⟩ := open_int Trym.underlying2 (hval 5 2 v5 rfl rfl) h5
  obtain ⟨a6, rfl, rfl, rfl⟩ := open_bool Trym.underlying4 (hval 6 4 v6 rfl rfl) h6
  obtain ⟨a7, rfl, rfl, rfl, w7⟩ := open_int Trym.underlying2 (hval 7 2 v7 rfl rfl) h7
  obtain ⟨a8, rfl, rfl, rfl, w8⟩ := open_int Trym.underlying2 (hval 8 2 v8 rfl rfl) h8
  obtain ⟨a9, rfl, rfl, rfl, w9⟩ := open_string Trym.underlying9 (hval 9 9 v9 rfl rfl) h9
  clear hA0 hval0
  simp only [List.append_nil] at hW'
  refine (walk a0 a1 a2 a3 a4 a5 a6 a7 a8 a9 w0 w1 w2 w3 w4 w5 w7 w8 w9 W).mono fun e W' ⟨he, hg⟩ => ?_
  subst he
  exact ⟨_, rfl, post_of_same (pa := []) (pv := []) hW' (fun _ _ _ => (trodAll_cons_mk (shut_bool Trym.underlying4 _) trodAll_mk0)) (fun sp _ => (trodAll_cons_mk (shut_string Trym.underlying9 w0) (trodAll_cons_mk (shut_string Trym.underlying9 w1) (trodAll_cons_mk (shut_string Trym.underlying9 w2) (trodAll_cons_mk (shut_string Trym.underlying9 w3) (trodAll_cons_mk (shut_int Trym.underlying2 w4) (trodAll_cons_mk (shut_int Trym.underlying2 w5) (trodAll_cons_mk (shut_bool Trym.underlying4 _) (trodAll_cons_mk (shut_int Trym.underlying2 w7) (trodAll_cons_mk (shut_int Trym.underlying2 w8) (trodAll_cons_mk (shut_string Trym.underlying9 w9) trodAll_mk0))))))))))) (fun _ _ => rfl) rfl
    (hg.frame _) hg.2.1 (ok_one (by kernel_rfl) rfl (okWide_bool_mk Trym.underlying4 _))⟩

theorem over : Rows.fnFileRefSizeIgnoresPlaceAndGrowsByAppendedRow.holds Trym.pinned (OpenSpec.ofChange Rows.fnFileRefSizeIgnoresPlaceAndGrowsByAppendedSpec) :=
  OpenClaim.holds_of_wide 4 Trym.f4 rfl rfl rfl rfl rfl rfl rfl ⟨rfl, rfl, rfl, rfl, rfl⟩ rfl rfl rfl rfl rfl (by kernel_rfl) Trym.func4 (by kernel_rfl)
    (of_decide_eq_true (by kernel_rfl)) (by unfold Func.isWrapper; first | (rw [if_pos (by decide +kernel)]; kernel_rfl) | (rw [if_neg (by decide +kernel)]; exact ⟨rfl, rfl⟩))
    (fun os started H enc _ => lifted os started H enc)

/-- ████ THE STATEMENT ████ -/
theorem proved : Rows.FnFileRefSizeIgnoresPlaceAndGrowsByAppendedSaid :=
  over
#print axioms proved
end Go.Proofs.Qxb6613365aMods.fnFileRefSizeIgnoresPlaceAndGrowsByAppended
