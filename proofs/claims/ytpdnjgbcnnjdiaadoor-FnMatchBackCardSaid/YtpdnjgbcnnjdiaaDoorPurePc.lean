/- The printed tests of pieces as facts on lists. -/
import Derived.Test.YtpdnjgbcnnjdiaaDoorPieces
import Derived.Test.YtpdnjgbcnnjdiaaDoorPFnVariablesx3
namespace Go.Proofs.YtpdnjgbcnnjdiaaDoor
open Go Go.RowKit Go.Proofs.YtpdnjgbcnnjdiaaDoorW.PrintWords
set_option linter.unusedVariables false
set_option linter.unusedSimpArgs false
open PFnMatchBack in
theorem zz4_l (l : List S33) (hl : l.length ≤ 2147483647) : ∀ (n k i : Nat), l.length - i < n → n ≤ k → i ≤ l.length → ∃ r, laws_zzFits4.l0 k l (l.length : Int) (i : Int) = some r ∧ (r = true → ∀ x ∈ l.drop i, x.f1.size ≤ 2147483647) := by
  intro n
  induction n with
  | zero => intro k i h; omega
  | succ n ih =>
    intro k i hn hk hi
    obtain ⟨k, rfl⟩ : ∃ m, k = m + 1 := ⟨k - 1, by omega⟩
    unfold laws_zzFits4.l0
    by_cases h : i < l.length
    · rw [if_pos (by omega), if_pos (by omega), if_pos (by omega), show rd_T33 l (i : Int) = l[i] from by simp [rd_T33, List.getD, h], show wrap64 ((i : Int) + 1) = ((i + 1 : Nat) : Int) from by unfold wrap64; omega]
      unfold laws_zzFits5.f
      split
      · exact ⟨false, by simp, fun e => by cases e⟩
      · rename_i hsz
        obtain ⟨r, h1, h2⟩ := ih k (i + 1) (by omega) (by omega) (by omega)
        refine ⟨r, by simpa using h1, fun e x hx => ?_⟩
        rw [List.drop_eq_getElem_cons h] at hx
        rcases List.mem_cons.1 hx with rfl | hx
        · omega
        · exact h2 e x hx
    · rw [if_neg (by omega)]
      refine ⟨true, rfl, fun _ x hx => ?_⟩
      rw [List.drop_of_length_le (by omega)] at hx
      cases hx
open PFnMatchBack in
theorem zz4_f (l : List S33) : ∃ k r, laws_zzFits4.f k l = some r ∧ (r = true → l.length ≤ 2147483647 ∧ ∀ x ∈ l, x.f1.size ≤ 2147483647) := by
  unfold laws_zzFits4.f
  by_cases h : (l.length : Int) > 2147483647
  · exact ⟨0, false, by rw [if_pos h], fun e => by cases e⟩
  · obtain ⟨r, h1, h2⟩ := zz4_l l (by omega) (l.length + 1) (l.length + 1) 0 (by omega) (by omega) (by omega)
    exact ⟨l.length + 1, r, by rw [if_neg h]; exact h1, fun e => ⟨by omega, by simpa using h2 e⟩⟩

/-- A letter, a digit, a low line. -/
def lettB (b : UInt8) : Prop := (97 ≤ b.toNat ∧ b.toNat ≤ 122) ∨ (48 ≤ b.toNat ∧ b.toNat ≤ 57) ∨ b.toNat = 95
def Lett (s : ByteArray) : Prop := 1 ≤ s.size ∧ s.size ≤ 12 ∧ ∀ b ∈ s.data.toList, lettB b
theorem bt_val (s : ByteArray) (k : Nat) (h : k < s.size) : bt s (k : Int) = ((s.data.toList[k]'(by rw [size_list]; exact h)).toNat : Int) := by
  unfold bt
  rw [dif_pos (by simpa using h)]
  simp [ByteArray.getElem_eq_getElem_data]
open PFnMatchBack in
theorem lett_l (s : ByteArray) (hs : s.size ≤ 2147483647) : ∀ (n k i : Nat), s.size - i < n → n ≤ k → i ≤ s.size → ∃ r, laws_letters.l0 k s (s.size : Int) (i : Int) = some r ∧ (r = true → 1 ≤ s.size ∧ s.size ≤ 12 ∧ ∀ b ∈ s.data.toList.drop i, lettB b) := by
  intro n
  induction n with
  | zero => intro k i h; omega
  | succ n ih =>
    intro k i hn hk hi
    obtain ⟨k, rfl⟩ : ∃ m, k = m + 1 := ⟨k - 1, by omega⟩
    unfold laws_letters.l0
    by_cases h : i < s.size
    · have hl : i < s.data.toList.length := by rw [size_list]; exact h
      rw [if_pos (by omega), if_pos (by omega), if_pos (by omega), bt_val s i h, show wrap64 ((i : Int) + 1) = ((i + 1 : Nat) : Int) from by unfold wrap64; omega]
      obtain ⟨r, h1, h2⟩ := ih k (i + 1) (by omega) (by omega) (by omega)
      have hgo : lettB s.data.toList[i] → ∃ r, laws_letters.l0 k s (s.size : Int) ((i + 1 : Nat) : Int) = some r ∧ (r = true → 1 ≤ s.size ∧ s.size ≤ 12 ∧ ∀ b ∈ s.data.toList.drop i, lettB b) := fun hb =>
        ⟨r, h1, fun e => ⟨(h2 e).1, (h2 e).2.1, fun b hm => by
          rw [List.drop_eq_getElem_cons hl] at hm
          rcases List.mem_cons.1 hm with rfl | hm
          · exact hb
          · exact (h2 e).2.2 b hm⟩⟩
      have hno : ∃ r, some false = some r ∧ (r = true → 1 ≤ s.size ∧ s.size ≤ 12 ∧ ∀ b ∈ s.data.toList.drop i, lettB b) := ⟨false, rfl, fun e => by cases e⟩
      repeat' split
      all_goals first | exact hno | (refine hgo ?_; unfold lettB; omega)
    · rw [if_neg (by omega)]
      have hd : s.data.toList.drop i = [] := List.drop_of_length_le (by rw [size_list]; omega)
      rw [hd]
      split
      · refine ⟨_, rfl, fun e => ⟨by omega, by have := of_decide_eq_true e; omega, by simp⟩⟩
      · exact ⟨false, rfl, fun e => by cases e⟩
open PFnMatchBack in
theorem lett_f (s : ByteArray) (hs : s.size ≤ 2147483647) : ∃ k r, laws_letters.f k s = some r ∧ (r = true → Lett s) := by
  obtain ⟨r, h1, h2⟩ := lett_l s hs (s.size + 1) (s.size + 1) 0 (by omega) (by omega) (by omega)
  exact ⟨s.size + 1, r, h1, fun e => by simpa [Lett] using h2 e⟩
open PFnVariables in
theorem within_l (l : List ByteArray) (s : ByteArray) (hl : l.length ≤ 2147483647) : ∀ (n k i : Nat), l.length - i < n → n ≤ k → i ≤ l.length → ∃ r, laws_within.l0 k s l (l.length : Int) (i : Int) = some r ∧ (r = false → ∀ x ∈ l.drop i, x.data.toList ≠ s.data.toList) ∧ (r = true → ∃ x ∈ l.drop i, x.data.toList = s.data.toList) := by
  intro n
  induction n with
  | zero => intro k i h; omega
  | succ n ih =>
    intro k i hn hk hi
    obtain ⟨k, rfl⟩ : ∃ m, k = m + 1 := ⟨k - 1, by omega⟩
    unfold laws_within.l0
    by_cases h : i < l.length
    · rw [if_pos (by omega), if_pos (by omega), if_pos (by omega), show rdOf ByteArray.empty l (i : Int) = l[i] from by simp [rdOf, List.getD, h], show wrap64 ((i : Int) + 1) = ((i + 1 : Nat) : Int) from by unfold wrap64; omega, toL, toL, List.drop_eq_getElem_cons h]
      split
      · rename_i he
        refine ⟨true, rfl, ?_, ?_⟩
        · intro e; cases e
        · intro _; exact ⟨l[i], List.mem_cons_self .., he⟩
      · rename_i he
        obtain ⟨r, h1, h2, h3⟩ := ih k (i + 1) (by omega) (by omega) (by omega)
        refine ⟨r, h1, fun e x hx => ?_, fun e => ?_⟩
        · rcases List.mem_cons.1 hx with rfl | hx
          · exact he
          · exact h2 e x hx
        · obtain ⟨x, hx, hxe⟩ := h3 e
          exact ⟨x, List.mem_cons_of_mem _ hx, hxe⟩
    · rw [if_neg (by omega)]
      have : l.drop i = [] := List.drop_of_length_le (by omega)
      rw [this]
      refine ⟨false, rfl, ?_, ?_⟩
      · intro _ x hx; cases hx
      · intro e; cases e
open PFnVariables in
theorem within_f (l : List ByteArray) (s : ByteArray) (hl : l.length ≤ 2147483647) : ∃ k r, laws_within.f k l s = some r ∧ (r = false → ∀ x ∈ l, x.data.toList ≠ s.data.toList) ∧ (r = true → ∃ x ∈ l, x.data.toList = s.data.toList) := by
  obtain ⟨r, h1, h2⟩ := within_l l s hl (l.length + 1) (l.length + 1) 0 (by omega) (by omega) (by omega)
  exact ⟨l.length + 1, r, h1, by simpa using h2⟩
end Go.Proofs.YtpdnjgbcnnjdiaaDoor
