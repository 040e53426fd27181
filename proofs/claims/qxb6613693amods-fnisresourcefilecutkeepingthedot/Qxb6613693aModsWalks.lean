import Derived.Test.Qxb6613693aModsRows
import Derived.WalkKit
import Derived.ProofKit
import Derived.OpenShut
import Derived.ShutString
namespace Go.Proofs.Qxb6613693aMods.walks
open Go.ChangeShapes Go.WideShapes Go.ChangeAt Go.RowKit

/-- The extension, read from the end: 'r' is what is left, reversed; 'acc' what was passed. -/
def extR : List UInt8 → List UInt8 → List UInt8
  | [], _ => []
  | c :: r, acc => if c = 47 then [] else if c = 46 then c :: acc else extR r (c :: acc)

def ext (l : List UInt8) : List UInt8 := extR l.reverse []

def yamlL : List UInt8 := [46, 121, 97, 109, 108]
def ymlL : List UInt8 := [46, 121, 109, 108]

def res (l : List UInt8) : Bool := ext l == yamlL || ext l == ymlL

theorem extR_append (r s acc : List UInt8) (h : (46 : UInt8) ∈ r) : extR (r ++ s) acc = extR r acc := by
  induction r generalizing acc with
  | nil => simp at h
  | cons c r ih =>
    simp only [List.cons_append, extR]
    by_cases h1 : c = 47
    · simp [h1]
    · by_cases h2 : c = 46
      · simp [h2]
      · simp only [h1, h2, if_false]
        refine ih _ ?_
        rcases List.mem_cons.mp h with h3 | h3
        · exact absurd h3.symm h2
        · exact h3

theorem ext_append (a b : List UInt8) (h : (46 : UInt8) ∈ b) : ext (a ++ b) = ext b := by
  unfold ext
  rw [List.reverse_append]
  exact extR_append _ _ _ (by simpa using h)

theorem ext_step (l : List UInt8) (m : Nat) (h : m < l.length) :
    extR (l.take (m + 1)).reverse (l.drop (m + 1)) = if l[m] = 47 then [] else if l[m] = 46 then l.drop m else extR (l.take m).reverse (l.drop m) := by
  rw [List.take_succ_eq_append_getElem h, List.drop_eq_getElem_cons h]
  simp only [List.reverse_append, List.reverse_cons, List.reverse_nil, List.nil_append, List.cons_append, extR]

theorem step_slash (s : ByteArray) (m : Nat) (h : m < s.size) (c : (!47 == (s[m].toNat : Int)) = false) :
    extR (s.data.toList.take (m + 1)).reverse (s.data.toList.drop (m + 1)) = [] := by
  rw [ext_step _ _ (by simpa using h), if_pos]
  have e : s.data.toList[m]'(by simpa using h) = s[m] := rfl
  rw [e]
  simp at c
  exact UInt8.toNat_inj.mp (by show s[m].toNat = 47; omega)

theorem step_dot (s : ByteArray) (m : Nat) (h : m < s.size) (c : (!47 == (s[m].toNat : Int)) = true) (d : ((s[m].toNat : Int) == 46) = true) :
    extR (s.data.toList.take (m + 1)).reverse (s.data.toList.drop (m + 1)) = s.data.toList.drop m := by
  have e : s.data.toList[m]'(by simpa using h) = s[m] := rfl
  simp at c d
  rw [ext_step _ _ (by simpa using h), if_neg, if_pos]
  · rw [e]; exact UInt8.toNat_inj.mp (by show s[m].toNat = 46; omega)
  · rw [e]; intro x; rw [x] at c; exact c rfl

theorem step_other (s : ByteArray) (m : Nat) (h : m < s.size) (c : (!47 == (s[m].toNat : Int)) = true) (d : ((s[m].toNat : Int) == 46) = false) :
    extR (s.data.toList.take (m + 1)).reverse (s.data.toList.drop (m + 1)) = extR (s.data.toList.take m).reverse (s.data.toList.drop m) := by
  have e : s.data.toList[m]'(by simpa using h) = s[m] := rfl
  simp at c d
  rw [ext_step _ _ (by simpa using h), if_neg, if_neg]
  · rw [e]; intro x; rw [x] at d; exact d rfl
  · rw [e]; intro x; rw [x] at c; exact c rfl

theorem extract_drop (s : ByteArray) (m : Nat) : (s.extract m s.size).data.toList = s.data.toList.drop m := by
  simp only [ByteArray.data_extract, Array.toList_extract, List.extract_eq_take_drop, ← ByteArray.size_data]
  rw [List.take_of_length_le (by simp)]

set_option maxHeartbeats 400000 in
theorem ext_any (s : ByteArray) (w : World) (hs : s.size ≤ maxLen) :
    Calls Trym.prog 27 #[.string s] w fun e w' => (∃ t : ByteArray, e = .returned (.string t) ∧ t.data.toList = ext s.data.toList) ∧ w' = w := by
  unfold maxLen at hs
  go_enter Trym.func27, Trym.ntmps27
  go_wp2
  go_loop [3] (fun i => ∃ k : Nat, k ≤ s.size ∧ i = .int .i64 ((k : Int) - 1) ∧ extR (s.data.toList.take k).reverse (s.data.toList.drop k) = ext s.data.toList) (fun i => (intOf i + 1).toNat)
  case atStart => exact ⟨s.size, Nat.le_refl _, rfl, by rw [List.take_of_length_le (by simp), List.drop_of_length_le (by simp)]; rfl⟩
  case round =>
    obtain ⟨k, hk, rfl, he⟩ := hrel
    have HE : Hid (extR (s.data.toList.take k).reverse (s.data.toList.drop k) = ext s.data.toList) := he
    clear he
    cases k with
    | zero =>
      go_wp2
      go_ret
      exact ⟨⟨_, rfl, HE.out⟩, rfl⟩
    | succ m =>
      rw [show (((m + 1 : Nat) : Int) - 1) = (m : Int) from by omega]
      go_wp2
      case roundEnd =>
        exact ⟨⟨m, by omega, rfl, by rw [← step_other s m ‹_› ‹_› ‹_›]; exact HE.out⟩, by simp [intOf]⟩
      all_goals go_ret
      · exact ⟨⟨_, rfl, by rw [← HE.out, step_dot s m ‹_› ‹_› ‹_›]; exact extract_drop s m⟩, rfl⟩
      · exact ⟨⟨_, rfl, by rw [← HE.out, step_slash s m ‹_› ‹_›]⟩, rfl⟩

theorem fext_any (s : ByteArray) (w : World) (hs : s.size ≤ maxLen) :
    Calls Trym.prog 26 #[.string s] w fun e w' => (∃ t : ByteArray, e = .returned (.string t) ∧ t.data.toList = ext s.data.toList) ∧ w' = w := by
  go_enter Trym.func26, Trym.ntmps26
  go_wp2_with (go_at_call 27; refine (ext_any _ _ hs).mono ?_; rintro e w' ⟨⟨t, rfl, ht⟩, rfl⟩)
  go_ret
  exact ⟨⟨_, rfl, ht⟩, rfl⟩

theorem ret_bool {a b : Bool} (h : a = b) : Ending.returned (.bool a) = .returned (.bool b) := by rw [h]

theorem res_of {t : ByteArray} {l : List UInt8} (ht : t.data.toList = ext l) : (t.toList == [46, 121, 97, 109, 108] || t.toList == [46, 121, 109, 108]) = res l := by
  rw [ByteArray.toList_eq, ht]; rfl

theorem res_true {t : ByteArray} {l : List UInt8} (ht : t.data.toList = ext l) (h : t.toList = [46, 121, 97, 109, 108]) : true = res l := by
  rw [← res_of ht, h]; rfl

theorem isres_any (s : ByteArray) (w : World) (hs : s.size ≤ maxLen) :
    Calls Trym.prog 23 #[.string s] w fun e w' => e = .returned (.bool (res s.data.toList)) ∧ w' = w := by
  go_enter Trym.func23, Trym.ntmps23
  go_wp2_with (go_at_call 26; refine (fext_any _ _ hs).mono ?_; rintro e w' ⟨⟨t, rfl, ht⟩, rfl⟩)
  all_goals go_ret
  · exact ⟨ret_bool (res_true ht ‹_›), rfl⟩
  · exact ⟨ret_bool (res_of ht), rfl⟩

theorem zzres_any (s : ByteArray) (w : World) (hs : s.size ≤ maxLen) :
    Calls Trym.prog 9 #[.string s] w fun e w' => e = .returned (.bool (res s.data.toList)) ∧ w' = w := by
  go_enter Trym.func9, Trym.ntmps9
  go_wp2_with (go_at_call 23; refine (isres_any _ _ hs).mono ?_; rintro e w' ⟨rfl, rfl⟩)
  go_ret
  exact ⟨rfl, rfl⟩

/-- The contract as the laws use it: the answer is handed in as a Bool of its own. -/
theorem zzres_at (r : Bool) {s : ByteArray} {w : World} (hs : s.size ≤ maxLen) (hr : res s.data.toList = r) :
    Calls Trym.prog 9 #[.string s] w fun e w' => e = .returned (.bool r) ∧ w' = w := by
  subst hr
  exact zzres_any s w hs

theorem ext_yaml (a : List UInt8) : ext (a ++ [46, 121, 97, 109, 108]) = [46, 121, 97, 109, 108] := by
  rw [ext_append _ _ (by simp)]; rfl
theorem ext_yml (a : List UInt8) : ext (a ++ [46, 121, 109, 108]) = [46, 121, 109, 108] := by
  rw [ext_append _ _ (by simp)]; rfl
theorem ext_YAML (a : List UInt8) : ext (a ++ [46, 89, 65, 77, 76]) = [46, 89, 65, 77, 76] := by
  rw [ext_append _ _ (by simp)]; rfl
theorem res_yaml (a : List UInt8) : res (a ++ [46, 121, 97, 109, 108]) = true := by
  unfold res; rw [ext_yaml]; rfl
theorem res_yml (a : List UInt8) : res (a ++ [46, 121, 109, 108]) = true := by
  unfold res; rw [ext_yml]; rfl
theorem res_YAML (a : List UInt8) : res (a ++ [46, 89, 65, 77, 76]) = false := by
  unfold res; rw [ext_YAML]; rfl
theorem res_yaml_more (a : List UInt8) (c : UInt8) : res (a ++ [46, 121, 97, 109, 108] ++ [c]) = false := by
  have e : ext (a ++ [46, 121, 97, 109, 108] ++ [c]) = if c = 47 then [] else if c = 46 then [c] else [46, 121, 97, 109, 108, c] := by
    rw [List.append_assoc, ext_append _ _ (by simp)]; rfl
  unfold res
  rw [e]
  by_cases h1 : c = 47
  · simp [h1, yamlL, ymlL]
  · by_cases h2 : c = 46
    · simp [h2, yamlL, ymlL]
    · simp [h1, h2, yamlL, ymlL]
theorem res_yml_more (a : List UInt8) (c : UInt8) : res (a ++ [46, 121, 109, 108] ++ [c]) = false := by
  have e : ext (a ++ [46, 121, 109, 108] ++ [c]) = if c = 47 then [] else if c = 46 then [c] else [46, 121, 109, 108, c] := by
    rw [List.append_assoc, ext_append _ _ (by simp)]; rfl
  unfold res
  rw [e]
  by_cases h1 : c = 47
  · simp [h1, yamlL, ymlL]
  · by_cases h2 : c = 46
    · simp [h2, yamlL, ymlL]
    · simp [h1, h2, yamlL, ymlL]
theorem res_cut (a b : List UInt8) (h : (46 : UInt8) ∈ b) : res (a ++ b) = res b := by
  unfold res; rw [ext_append _ _ h]

theorem bytes10_yes (a : ByteArray) (c : Int) (h : (a.size : Int) ≤ 1048576) (w : World) :
    Calls Trym.prog 10 #[.string a, .int .u8 c] w fun e w' => e = .returned (.bool true) ∧ w' = w := by
  go_enter Trym.func10, Trym.ntmps10
  go_wp2
  go_ret
  exact ⟨rfl, rfl⟩

theorem bytes10_no (a : ByteArray) (c : Int) (h : ¬ (a.size : Int) ≤ 1048576) (w : World) :
    Calls Trym.prog 10 #[.string a, .int .u8 c] w fun e w' => e = .returned (.bool false) ∧ w' = w := by
  go_enter Trym.func10, Trym.ntmps10
  go_wp2
  all_goals
    go_ret
    exact ⟨rfl, rfl⟩

theorem bytes7_yes (a b : ByteArray) (h : (a.size : Int) + b.size ≤ 1048576) (w : World) :
    Calls Trym.prog 7 #[.string a, .string b] w fun e w' => e = .returned (.bool true) ∧ w' = w := by
  go_enter Trym.func7, Trym.ntmps7
  go_wp2
  go_ret
  exact ⟨rfl, rfl⟩

theorem bytes7_no (a b : ByteArray) (ha : a.size ≤ maxLen) (hb : b.size ≤ maxLen) (h : ¬ (a.size : Int) + b.size ≤ 1048576) (w : World) :
    Calls Trym.prog 7 #[.string a, .string b] w fun e w' => e = .returned (.bool false) ∧ w' = w := by
  unfold maxLen at ha hb
  go_enter Trym.func7, Trym.ntmps7
  go_wp2
  all_goals
    go_ret
    exact ⟨rfl, rfl⟩

/-! ### zzHasByte at the dot -/
theorem mem_take_succ (s : ByteArray) (k : Nat) (h : k < s.size) (hn : ¬ (46 : UInt8) ∈ s.data.toList.take k) (d : ((s[k].toNat : Int) == 46) = false) :
    ¬ (46 : UInt8) ∈ s.data.toList.take (k + 1) := by
  rw [List.take_succ_eq_append_getElem (by simpa using h)]
  intro x
  rcases List.mem_append.mp x with x | x
  · exact hn x
  · have e : s.data.toList[k]'(by simpa using h) = s[k] := rfl
    rw [e] at x
    simp at x d
    rw [← x] at d
    exact d rfl

theorem mem_of_dot (s : ByteArray) (k : Nat) (h : k < s.size) (d : ((s[k].toNat : Int) == 46) = true) : (46 : UInt8) ∈ s.data.toList := by
  have e : s.data.toList[k]'(by simpa using h) = s[k] := rfl
  have x : s[k] = 46 := by
    simp at d
    exact UInt8.toNat_inj.mp (by show s[k].toNat = 46; omega)
  rw [← x, ← e]
  exact List.getElem_mem _

def hasDot (l : List UInt8) : Bool := decide ((46 : UInt8) ∈ l)
theorem hasDot_true {l : List UInt8} (h : (46 : UInt8) ∈ l) : true = hasDot l := (decide_eq_true h).symm
theorem hasDot_false {l : List UInt8} (h : ¬ (46 : UInt8) ∈ l) : false = hasDot l := (decide_eq_false h).symm

set_option maxHeartbeats 400000 in
theorem hasDot_any (s : ByteArray) (w : World) (hs : s.size ≤ maxLen) :
    Calls Trym.prog 8 #[.string s, .int .u8 46] w fun e w' => e = .returned (.bool (hasDot s.data.toList)) ∧ w' = w := by
  unfold maxLen at hs
  go_enter Trym.func8, Trym.ntmps8
  go_wp2
  go_loop [5] (fun i => ∃ k : Nat, k ≤ s.size ∧ i = .int .i64 k ∧ ¬ (46 : UInt8) ∈ s.data.toList.take k) (fun i => s.size - (intOf i).toNat)
  case atStart => exact ⟨0, Nat.zero_le _, rfl, by simp⟩
  case round =>
    obtain ⟨k, hk, rfl, he⟩ := hrel
    have HE : Hid (¬ (46 : UInt8) ∈ s.data.toList.take k) := he
    clear he
    by_cases hlt : k < s.size
    · go_wp2
      case roundEnd =>
        exact ⟨⟨k + 1, by omega, by go_num, mem_take_succ s k hlt HE.out ‹_›⟩, by simp [intOf]; omega⟩
      all_goals
        go_ret
        exact ⟨ret_bool (hasDot_true (mem_of_dot s k hlt ‹_›)), rfl⟩
    · go_wp2
      go_ret
      exact ⟨ret_bool (hasDot_false (by have := HE.out; rwa [List.take_of_length_le (by simp; omega)] at this)), rfl⟩

end Go.Proofs.Qxb6613693aMods.walks
