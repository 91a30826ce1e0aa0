/- The small functions that the trie's code calls: prefix, suffix. -/
import Derived.Test.YtpdnjgbcnnjdiaaGreatDoorTree
import Derived.Lib.Hide
import Derived.Lib.Strings
import Derived.Outline
import Derived.WalkSpells
import Derived.WalkLawsBesides
import Derived.Deep.DeepFit
import Derived.Deep.LoopGhost
import Derived.Deep.QuietTactic
import Derived.BigQuiet
import Derived.BigRegion
namespace Go.Proofs.YtpdnjgbcnnjdiaaGreatDoor
open Go Go.RowKit
set_option linter.unusedVariables false
set_option linter.unusedSimpArgs false

theorem toL (s : ByteArray) : s.toList = s.data.toList := ByteArray.toList_eq s
theorem ext_list (s : ByteArray) (a b : Nat) : (s.extract a b).data.toList = (s.data.toList.drop a).take (b - a) := Lib.extract_data s a b
theorem size_list (s : ByteArray) : s.data.toList.length = s.size := by simp
theorem ret_b {a b : Bool} (h : a = b) : Ending.returned (.bool a) = .returned (.bool b) := by rw [h]
theorem ret_i {k : IntKind} {a b : Int} (h : a = b) : Ending.returned (.int k a) = .returned (.int k b) := by rw [h]

theorem prefix_take (s p : ByteArray) : ((s.extract 0 p.size).toList == p.toList) = decide (p.data.toList <+: s.data.toList) := by
  rw [toL, toL, ext_list, Bool.eq_iff_iff]
  simp only [List.drop_zero, Nat.sub_zero, beq_iff_eq, decide_eq_true_eq]
  rw [List.prefix_iff_eq_take, size_list]
  exact eq_comm
theorem suffix_drop (s p : ByteArray) (h : p.size ≤ s.size) : ((s.extract (s.size - p.size) s.size).toList == p.toList) = decide (p.data.toList <:+ s.data.toList) := by
  rw [toL, toL, ext_list, Bool.eq_iff_iff]
  simp only [beq_iff_eq, decide_eq_true_eq]
  rw [List.suffix_iff_eq_drop, size_list, size_list, List.take_of_length_le (by rw [List.length_drop, size_list]; exact Nat.le_refl _)]
  exact eq_comm

set_option maxHeartbeats 400000 in
theorem hasPrefix0 (s p : ByteArray) (w : World) (hs : s.size ≤ 100000) (hp : p.size ≤ 100000) (b : Bool) (hb : decide (p.data.toList <+: s.data.toList) = b) :
    Calls Tryz.prog 70 #[.string s, .string p] w fun e w' => e = .returned (.bool b) ∧ w = w' := by
  subst hb
  go_enter Tryz.func70, Tryz.ntmps70
  go_wp2
  · go_ret
    exact ⟨ret_b (prefix_take s p), rfl⟩
  · have hlt : ¬ p.size ≤ s.size := by assumption
    go_ret
    refine ⟨ret_b ?_, rfl⟩
    symm
    rw [decide_eq_false_iff_not]
    intro h
    have := h.length_le
    simp only [size_list] at this
    omega

set_option maxHeartbeats 400000 in
/-- strings.HasPrefix. -/
theorem hasPrefix (s p : ByteArray) (w : World) (hs : s.size ≤ 100000) (hp : p.size ≤ 100000) (b : Bool) (hb : decide (p.data.toList <+: s.data.toList) = b) :
    Calls Tryz.prog 47 #[.string s, .string p] w fun e w' => e = .returned (.bool b) ∧ w = w' := by
  go_enter Tryz.func47, Tryz.ntmps47
  go_wp2_with (go_at_call 70; refine (hasPrefix0 s p _ hs hp b hb).mono ?_; rintro e w' ⟨rfl, rfl⟩)
  go_ret
  exact ⟨rfl, rfl⟩

set_option maxHeartbeats 400000 in
theorem hasSuffix0 (s p : ByteArray) (w : World) (hs : s.size ≤ 100000) (hp : p.size ≤ 100000) (b : Bool) (hb : decide (p.data.toList <:+ s.data.toList) = b) :
    Calls Tryz.prog 54 #[.string s, .string p] w fun e w' => e = .returned (.bool b) ∧ w = w' := by
  subst hb
  by_cases hle : p.size ≤ s.size
  · obtain ⟨d, hd⟩ : ∃ d, s.size = d + p.size := ⟨s.size - p.size, by omega⟩
    have e1 : ((s.size : Int) - (p.size : Int)).toNat = d := by omega
    have h2 := suffix_drop s p hle
    have e2 : s.size - p.size = d := by omega
    rw [e2] at h2
    have H2 := Lib.hid h2
    clear h2 hd e2
    go_enter Tryz.func54, Tryz.ntmps54
    go_wp2
    all_goals go_ret
    exact ⟨ret_b H2.out, rfl⟩
  · go_enter Tryz.func54, Tryz.ntmps54
    go_wp2
    go_ret
    refine ⟨ret_b ?_, rfl⟩
    symm
    rw [decide_eq_false_iff_not]
    intro h
    have := h.length_le
    simp only [size_list] at this
    omega

set_option maxHeartbeats 400000 in
/-- strings.HasSuffix. -/
theorem hasSuffix (s p : ByteArray) (w : World) (hs : s.size ≤ 100000) (hp : p.size ≤ 100000) (b : Bool) (hb : decide (p.data.toList <:+ s.data.toList) = b) :
    Calls Tryz.prog 38 #[.string s, .string p] w fun e w' => e = .returned (.bool b) ∧ w = w' := by
  go_enter Tryz.func38, Tryz.ntmps38
  go_wp2_with (go_at_call 54; refine (hasSuffix0 s p _ hs hp b hb).mono ?_; rintro e w' ⟨rfl, rfl⟩)
  go_ret
  exact ⟨rfl, rfl⟩

set_option maxHeartbeats 400000 in
/-- EqualSuffix: two blocks are laid. -/
theorem equalSuffix (k1 k2 : Int) (s1 s2 : ByteArray) (n1 n2 : Value) (w : World) (b : Bool) (hb : (k1 == k2 && s1.toList == s2.toList) = b) :
    Calls Tryz.prog 51 #[.agg #[.int .i64 k1, .string s1, n1], .agg #[.int .i64 k2, .string s2, n2]] w fun e w' => e = .returned (.bool b) ∧ w' = (w.alloc (.cells #[.int .i64 k1, .string s1, n1] 101)).alloc (.cells #[.int .i64 k2, .string s2, n2] 101) := by
  subst hb
  by_cases hk : k1 = k2
  · subst hk
    go_enter Tryz.func51, Tryz.ntmps51
    go_wp2
    go_ret
    exact ⟨ret_b (by simp), rfl⟩
  · have hk' : (k1 == k2) = false := by simp [hk]
    go_enter Tryz.func51, Tryz.ntmps51
    go_wp2
    go_ret
    exact ⟨ret_b (by rw [hk']; rfl), rfl⟩

/-- The order of kinds. -/
def cmpK (a b : Int) : Int := if a < b then -1 else if b < a then 1 else 0
/-- The order of texts, as the program's cmp.Compare has it. -/
def cmpB (a b : Bs) : Int := if Op.bytesLess a b then -1 else if a = b then 0 else 1
/-- compareSuffix. -/
def cmpTok (a b : Tok) : Int := if cmpK a.1 b.1 = 0 then cmpB b.2 a.2 else cmpK a.1 b.1

set_option maxHeartbeats 400000 in
theorem cmpKind (a b : Int) (w : World) :
    Calls Tryz.prog 75 #[.int .i64 a, .int .i64 b] w fun e w' => e = .returned (.int .i64 (cmpK a b)) ∧ w = w' := by
  by_cases h1 : a < b
  · have hc : cmpK a b = -1 := by simp [cmpK, h1]
    have HC := Lib.hid hc
    clear hc
    go_enter Tryz.func75, Tryz.ntmps75
    go_wp2
    go_ret
    exact ⟨ret_i HC.out.symm, rfl⟩
  · by_cases h2 : b < a
    · have hc : cmpK a b = 1 := by simp [cmpK, h1, h2]
      have HC := Lib.hid hc
      clear hc
      go_enter Tryz.func75, Tryz.ntmps75
      go_wp2
      go_ret
      exact ⟨ret_i HC.out.symm, rfl⟩
    · have hc : cmpK a b = 0 := by simp [cmpK, h1, h2]
      have HC := Lib.hid hc
      clear hc
      go_enter Tryz.func75, Tryz.ntmps75
      go_wp2
      go_ret
      exact ⟨ret_i HC.out.symm, rfl⟩

set_option maxHeartbeats 400000 in
theorem cmpStr (a b : ByteArray) (w : World) :
    Calls Tryz.prog 76 #[.string a, .string b] w fun e w' => e = .returned (.int .i64 (cmpB a.toList b.toList)) ∧ w = w' := by
  by_cases h1 : Op.bytesLess a.toList b.toList = true
  · have hc : cmpB a.toList b.toList = -1 := by simp [cmpB, h1]
    have HC := Lib.hid hc
    clear hc
    go_enter Tryz.func76, Tryz.ntmps76
    go_wp2
    go_ret
    exact ⟨ret_i HC.out.symm, rfl⟩
  · have h1' : Op.bytesLess a.toList b.toList = false := by simpa using h1
    by_cases h2 : a.toList = b.toList
    · have hc : cmpB a.toList b.toList = 0 := by unfold cmpB; rw [if_neg (by rw [h1']; decide), if_pos h2]
      have HC := Lib.hid hc
      have h2b : (a.toList == b.toList) = true := by simp [h2]
      clear hc h1 h2
      go_enter Tryz.func76, Tryz.ntmps76
      go_wp2
      go_ret
      exact ⟨ret_i HC.out.symm, rfl⟩
    · have hc : cmpB a.toList b.toList = 1 := by simp [cmpB, h1', h2]
      have HC := Lib.hid hc
      have h2b : (a.toList == b.toList) = false := by simp [h2]
      clear hc h1 h2
      go_enter Tryz.func76, Tryz.ntmps76
      go_wp2
      go_ret
      exact ⟨ret_i HC.out.symm, rfl⟩

set_option maxHeartbeats 400000 in
/-- compareSuffix: two blocks are laid. -/
theorem compareSuffix (k1 k2 : Int) (s1 s2 : ByteArray) (n1 n2 : Value) (w : World) :
    Calls Tryz.prog 53 #[.agg #[.int .i64 k1, .string s1, n1], .agg #[.int .i64 k2, .string s2, n2]] w fun e w' => e = .returned (.int .i64 (cmpTok (k1, s1.toList) (k2, s2.toList))) ∧ w' = (w.alloc (.cells #[.int .i64 k1, .string s1, n1] 101)).alloc (.cells #[.int .i64 k2, .string s2, n2] 101) := by
  by_cases h : cmpK k1 k2 = 0
  · have hc : cmpTok (k1, s1.toList) (k2, s2.toList) = cmpB s2.toList s1.toList := by simp [cmpTok, h]
    have HC := Lib.hid hc
    have hb : (cmpK k1 k2 != 0) = false := by simp [h]
    clear hc h
    go_enter Tryz.func53, Tryz.ntmps53
    go_wp2_with (first | (go_at_call 75; refine (cmpKind _ _ _).mono ?_; rintro e w' ⟨rfl, rfl⟩) | (go_at_call 76; refine (cmpStr _ _ _).mono ?_; rintro e w' ⟨rfl, rfl⟩))
    go_ret
    exact ⟨ret_i HC.out.symm, rfl⟩
  · have hc : cmpTok (k1, s1.toList) (k2, s2.toList) = cmpK k1 k2 := by simp [cmpTok, h]
    have HC := Lib.hid hc
    have hb : (cmpK k1 k2 != 0) = true := by simp [h]
    clear hc h
    go_enter Tryz.func53, Tryz.ntmps53
    go_wp2_with (first | (go_at_call 75; refine (cmpKind _ _ _).mono ?_; rintro e w' ⟨rfl, rfl⟩) | (go_at_call 76; refine (cmpStr _ _ _).mono ?_; rintro e w' ⟨rfl, rfl⟩))
    go_ret
    exact ⟨ret_i HC.out.symm, rfl⟩

end Go.Proofs.YtpdnjgbcnnjdiaaGreatDoor
