/- The printed functions that FnOrder calls, as functions on lists: plain, paths, Concrete, braced, within. -/
import Derived.Test.YtpdnjgbcnnjdiaaDoorOrdB
import Derived.Test.YtpdnjgbcnnjdiaaDoorZz3
import Derived.Test.YtpdnjgbcnnjdiaaDoorPFnVariablesx3
import Derived.Test.YtpdnjgbcnnjdiaaDoorCutOrder
namespace Go.Proofs.YtpdnjgbcnnjdiaaDoor
open Go Go.RowKit Go.Proofs.YtpdnjgbcnnjdiaaDoorW.PrintWords Go.Proofs.YtpdnjgbcnnjdiaaDoor.PFnMatch
set_option linter.unusedVariables false
set_option linter.unusedSimpArgs false

theorem bt_nat (s : ByteArray) (k : Nat) (h : k < s.size) : bt s (k : Int) = ((s.data.toList[k]'(by rw [Array.length_toList]; exact h)).toNat : Int) := by
  unfold bt
  rw [dif_pos (by simpa using h)]
  simp [ByteArray.getElem_eq_getElem_data]
theorem wrap_nat (n : Nat) (h : n < 1000000) : wrap64 ((n : Int) + 1) = ((n + 1 : Nat) : Int) := by unfold wrap64; omega
theorem bt_eq (s : ByteArray) (k : Nat) (h : k < s.size) (y : UInt8) : (bt s (k : Int) = (y.toNat : Int)) ↔ s.data.toList[k]'(by rw [size_list]; exact h) = y := by
  rw [bt_nat s k h]
  constructor
  · intro h2; exact UInt8.toNat_inj.1 (by omega)
  · intro h2; rw [h2]
theorem plain_l (s : ByteArray) (hs : s.size ≤ 2147483647) : ∀ (n k i : Nat), s.size - i < n → n ≤ k → i ≤ s.size →
    laws_plain.l0 k s (s.size : Int) (i : Int) = some (decide (s.size ≤ 60 ∧ ∀ b ∈ s.data.toList.drop i, 32 ≤ b.toNat ∧ b.toNat ≤ 126)) := by
  intro n
  induction n with
  | zero => intro k i h; omega
  | succ n ih =>
    intro k i hn hk hi
    obtain ⟨k, rfl⟩ : ∃ m, k = m + 1 := ⟨k - 1, by omega⟩
    unfold laws_plain.l0
    by_cases h : i < s.size
    · have hl : i < s.data.toList.length := by rw [size_list]; exact h
      rw [if_pos (by omega), if_pos (by omega), if_pos (by omega), bt_nat s i h, List.drop_eq_getElem_cons hl]
      by_cases h1 : ((s.data.toList[i]).toNat : Int) > 126
      · rw [if_pos h1]
        congr 1
        symm
        rw [decide_eq_false_iff_not]
        intro h2
        have := h2.2 _ (List.mem_cons_self ..)
        omega
      · rw [if_neg h1]
        by_cases h2 : ((s.data.toList[i]).toNat : Int) < 32
        · rw [if_pos h2]
          congr 1
          symm
          rw [decide_eq_false_iff_not]
          intro h3
          have := h3.2 _ (List.mem_cons_self ..)
          omega
        · rw [if_neg h2, show wrap64 ((i : Int) + 1) = ((i + 1 : Nat) : Int) from by unfold wrap64; omega, ih k (i + 1) (by omega) (by omega) (by omega)]
          congr 1
          rw [decide_eq_decide]
          constructor
          · rintro ⟨ha, hb⟩
            refine ⟨ha, fun b hm => ?_⟩
            rcases List.mem_cons.1 hm with rfl | hm
            · omega
            · exact hb b hm
          · rintro ⟨ha, hb⟩
            exact ⟨ha, fun b hm => hb b (List.mem_cons_of_mem _ hm)⟩
    · have : i = s.size := by omega
      subst this
      rw [if_neg (by omega), List.drop_of_length_le (by rw [size_list]; exact Nat.le_refl _)]
      congr 1
      rw [decide_eq_decide]
      simp
      omega
/-- What plain says of a text. -/
def Plain (s : ByteArray) : Prop := s.size ≤ 60 ∧ ∀ b ∈ s.data.toList, 32 ≤ b.toNat ∧ b.toNat ≤ 126
instance (s : ByteArray) : Decidable (Plain s) := inferInstanceAs (Decidable (_ ∧ _))
theorem plain_f (s : ByteArray) (hs : s.size ≤ 2147483647) (k : Nat) (hk : s.size < k) : laws_plain.f k s = some (decide (Plain s)) := by
  have := plain_l s hs (s.size + 1) k 0 (by omega) (by omega) (by omega)
  simpa [laws_plain.f, Plain] using this
theorem paths_l (l : List ByteArray) (hl : l.length ≤ 2147483647) (hx : ∀ x ∈ l, x.size ≤ 2147483647) : ∀ (n k i : Nat), l.length - i < n → n + 2147483648 ≤ k → i ≤ l.length → ∃ b, laws_paths.l0 k l l (l.length : Int) (i : Int) = some b ∧ (b = true → l.length ≤ 12 ∧ ∀ x ∈ l.drop i, Plain x) := by
  intro n
  induction n with
  | zero => intro k i h; omega
  | succ n ih =>
    intro k i hn hk hi
    obtain ⟨k, rfl⟩ : ∃ m, k = m + 1 := ⟨k - 1, by omega⟩
    rw [laws_paths.l0]
    by_cases h : i < l.length
    · have hrd : rdOf ByteArray.empty l (i : Int) = l[i] := by simp [rdOf, List.getD, h]
      have hs := hx _ (List.getElem_mem h)
      rw [if_pos (by omega), if_pos (by omega), if_pos (by omega), hrd, plain_f _ hs k (by omega), Option.bind_some, show wrap64 ((i : Int) + 1) = ((i + 1 : Nat) : Int) from by unfold wrap64; omega]
      by_cases hp : Plain l[i]
      · rw [if_pos (by simpa using hp)]
        obtain ⟨b, e1, e2⟩ := ih k (i + 1) (by omega) (by omega) (by omega)
        refine ⟨b, e1, fun hb => ⟨(e2 hb).1, fun x hm => ?_⟩⟩
        rw [List.drop_eq_getElem_cons h] at hm
        rcases List.mem_cons.1 hm with rfl | hm
        · exact hp
        · exact (e2 hb).2 x hm
      · rw [if_neg (by simpa using hp)]
        exact ⟨false, rfl, fun e => by cases e⟩
    · rw [if_neg (by omega), List.drop_of_length_le (by omega)]
      exact ⟨_, rfl, fun hb => ⟨by have := of_decide_eq_true hb; omega, fun x hm => by cases hm⟩⟩
theorem paths_f (l : List ByteArray) (hl : l.length ≤ 2147483647) (hx : ∀ x ∈ l, x.size ≤ 2147483647) : ∃ k b, laws_paths.f k l = some b ∧ (b = true → l.length ≤ 12 ∧ ∀ x ∈ l, Plain x) := by
  obtain ⟨b, e1, e2⟩ := paths_l l hl hx (l.length + 1) (l.length + 2147483649) 0 (by omega) (by omega) (by omega)
  exact ⟨_, b, e1, by simpa using e2⟩

abbrev bys (s : ByteArray) : Bs := s.data.toList
theorem bt123 (s : ByteArray) (k : Nat) (h : k < s.size) : (bt s (k : Int) = 123) ↔ s.data.toList[k]'(by rw [size_list]; exact h) = 123 := bt_eq s k h 123
theorem bt125 (s : ByteArray) (k : Nat) (h : k < s.size) : (bt s (k : Int) = 125) ↔ s.data.toList[k]'(by rw [size_list]; exact h) = 125 := bt_eq s k h 125
theorem conc_l (s : ByteArray) (hs : s.size ≤ 100000) : ∀ (n k i : Nat), s.size - i < n → n ≤ k → i ≤ s.size → ∃ b, spec_Concrete.l0 k s (s.size : Int) (i : Int) = some b ∧ (b = true ↔ ∀ x ∈ (bys s).drop i, x ≠ 123) := by
  intro n
  induction n with
  | zero => intro k i h; omega
  | succ n ih =>
    intro k i hn hk hi
    obtain ⟨k, rfl⟩ : ∃ m, k = m + 1 := ⟨k - 1, by omega⟩
    unfold spec_Concrete.l0
    by_cases h : i < s.size
    · have hl : i < s.data.toList.length := by rw [size_list]; exact h
      rw [if_pos (by omega), if_pos (by omega), if_pos (by omega), wrap_nat i (by omega), List.drop_eq_getElem_cons hl]
      by_cases hc : s.data.toList[i] = 123
      · rw [if_pos ((bt123 s i h).2 hc)]
        exact ⟨false, rfl, by simp [hc]⟩
      · rw [if_neg (fun e => hc ((bt123 s i h).1 e))]
        obtain ⟨b, e1, e2⟩ := ih k (i + 1) (by omega) (by omega) (by omega)
        refine ⟨b, e1, e2.trans ⟨fun h x hx => ?_, fun h x hx => h x (List.mem_cons_of_mem _ hx)⟩⟩
        rcases List.mem_cons.1 hx with rfl | hx
        · exact hc
        · exact h x hx
    · rw [if_neg (by omega), List.drop_of_length_le (by rw [size_list]; omega)]
      exact ⟨true, rfl, by simp⟩
theorem conc_f (s : ByteArray) (hs : s.size ≤ 100000) (k : Nat) (hk : s.size < k) : ∃ b, spec_Concrete.f k s = some b ∧ (b = true ↔ ∀ x ∈ bys s, x ≠ 123) := by
  obtain ⟨b, e1, e2⟩ := conc_l s hs (s.size + 1) k 0 (by omega) (by omega) (by omega)
  exact ⟨b, e1, by simpa using e2⟩

open PFnVariables in
theorem within_l (l : List ByteArray) (s : ByteArray) (hl : l.length ≤ 2147483647) : ∀ (n k i : Nat), l.length - i < n → n ≤ k → i ≤ l.length → ∃ r, laws_within.l0 k s l (l.length : Int) (i : Int) = some r ∧ (r = false → ∀ x ∈ l.drop i, x.data.toList ≠ s.data.toList) ∧ (r = true → ∃ x ∈ l.drop i, x.data.toList = s.data.toList) := by
  intro n
  induction n with
  | zero => intro k i h; omega
  | succ n ih =>
    intro k i hn hk hi
    obtain ⟨k, rfl⟩ : ∃ m, k = m + 1 := ⟨k - 1, by omega⟩
    unfold laws_within.l0
    by_cases h : i < l.length
    · rw [if_pos (by omega), if_pos (by omega), if_pos (by omega), show rdOf ByteArray.empty l (i : Int) = l[i] from by simp [rdOf, List.getD, h], show wrap64 ((i : Int) + 1) = ((i + 1 : Nat) : Int) from by unfold wrap64; omega, toL, toL, List.drop_eq_getElem_cons h]
      split
      · rename_i he
        refine ⟨true, rfl, ?_, ?_⟩
        · intro e; cases e
        · intro _; exact ⟨l[i], List.mem_cons_self .., he⟩
      · rename_i he
        obtain ⟨r, h1, h2, h3⟩ := ih k (i + 1) (by omega) (by omega) (by omega)
        refine ⟨r, h1, fun e x hx => ?_, fun e => ?_⟩
        · rcases List.mem_cons.1 hx with rfl | hx
          · exact he
          · exact h2 e x hx
        · obtain ⟨x, hx, hxe⟩ := h3 e
          exact ⟨x, List.mem_cons_of_mem _ hx, hxe⟩
    · rw [if_neg (by omega)]
      have : l.drop i = [] := List.drop_of_length_le (by omega)
      rw [this]
      refine ⟨false, rfl, ?_, ?_⟩
      · intro _ x hx; cases hx
      · intro e; cases e
open PFnVariables in
theorem within_f (l : List ByteArray) (s : ByteArray) (hl : l.length ≤ 2147483647) : ∃ k r, laws_within.f k l s = some r ∧ (r = false → ∀ x ∈ l, x.data.toList ≠ s.data.toList) ∧ (r = true → ∃ x ∈ l, x.data.toList = s.data.toList) := by
  obtain ⟨r, h1, h2⟩ := within_l l s hl (l.length + 1) (l.length + 1) 0 (by omega) (by omega) (by omega)
  exact ⟨l.length + 1, r, h1, by simpa using h2⟩

def cntO (l : Bs) : Nat := (l.filter (· == 123)).length
theorem cntO_snoc (l : Bs) (b : UInt8) : cntO (l ++ [b]) = cntO l + (if b = 123 then 1 else 0) := by
  unfold cntO
  rw [List.filter_append, List.length_append]
  by_cases h : b = 123 <;> simp [h]
theorem cntO_zero (l : Bs) : cntO l = 0 ↔ ∀ x ∈ l, x ≠ 123 := by
  unfold cntO
  rw [List.length_eq_zero_iff, List.filter_eq_nil_iff]
  simp
open PFnOrder in
theorem braced_l (s : ByteArray) (hs : s.size ≤ 100000) : ∀ (n k i : Nat) (op : Bool), s.size - i < n → 2 * n ≤ k → i ≤ s.size → cntO ((bys s).take i) = cntB ((bys s).take i) + (if op = true then 1 else 0) →
    ∃ b, laws_braced.l0 k s op (s.size : Int) (i : Int) = some b ∧ (b = true → cntO (bys s) = cntB (bys s)) := by
  intro n
  induction n with
  | zero => intro k i op h; omega
  | succ n ih =>
    intro k i op hn hk hi hc
    obtain ⟨k, rfl⟩ : ∃ m, k = m + 2 := ⟨k - 2, by omega⟩
    rw [laws_braced.l0]
    by_cases h : i < s.size
    · have hl : i < s.data.toList.length := by rw [size_list]; exact h
      have htk : (bys s).take (i + 1) = (bys s).take i ++ [s.data.toList[i]] := by rw [List.take_add_one, List.getElem?_eq_getElem hl]; rfl
      have hO := cntO_snoc ((bys s).take i) s.data.toList[i]
      have hB := cntB_snoc ((bys s).take i) s.data.toList[i]
      rw [← htk] at hO hB
      have b123 := bt123 s i h
      have b125 := bt125 s i h
      have j1t : ∀ o2 x4, ∃ b, laws_braced.j1 (k + 1) s o2 x4 (s.size : Int) (i : Int) true = some b ∧ (b = true → cntO (bys s) = cntB (bys s)) := fun o2 x4 => by
        rw [laws_braced.j1, if_pos rfl]
        exact ⟨false, rfl, fun e => by cases e⟩
      have nx := fun o2 (hh : cntO ((bys s).take (i + 1)) = cntB ((bys s).take (i + 1)) + (if o2 = true then 1 else 0)) => ih k (i + 1) o2 (by omega) (by omega) (by omega) hh
      rw [if_pos (by omega), if_pos (by omega), if_pos (by omega)]
      by_cases h3 : s.data.toList[i] = 123
      · have h5 : s.data.toList[i] ≠ 125 := by rw [h3]; decide
        rw [if_pos (b123.2 h3)]
        rw [if_pos h3] at hO
        rw [if_neg h5] at hB
        cases op with
        | true =>
          rw [if_pos rfl]
          exact j1t _ _
        | false =>
          rw [if_neg (by decide), if_neg (fun e => h5 (b125.1 e)), laws_braced.j1, if_neg (by decide), if_pos (by omega), if_pos (by omega), if_pos (b123.2 h3), wrap_nat i (by omega)]
          refine nx true ?_
          simp at hc ⊢
          omega
      · rw [if_neg (fun e => h3 (b123.1 e))]
        rw [if_neg h3] at hO
        by_cases h5 : s.data.toList[i] = 125
        · rw [if_pos (b125.2 h5)]
          rw [if_pos h5] at hB
          cases op with
          | true =>
            rw [laws_braced.j1, if_neg (by decide), if_pos (by omega), if_pos (by omega), if_neg (fun e => h3 (b123.1 e)), if_pos (b125.2 h5), wrap_nat i (by omega)]
            refine nx false ?_
            simp at hc ⊢
            omega
          | false => exact j1t _ _
        · rw [if_neg (fun e => h5 (b125.1 e))]
          rw [if_neg h5] at hB
          rw [laws_braced.j1, if_neg (by decide), if_pos (by omega), if_pos (by omega), if_neg (fun e => h3 (b123.1 e)), if_neg (fun e => h5 (b125.1 e)), wrap_nat i (by omega)]
          exact nx op (by omega)
    · rw [if_neg (by omega)]
      refine ⟨_, rfl, fun hb => ?_⟩
      have hi2 : i = s.size := by omega
      subst hi2
      rw [List.take_of_length_le (by rw [size_list]; exact Nat.le_refl _)] at hc
      cases op with
      | true => cases hb
      | false => simpa using hc
open PFnOrder in
theorem braced_f (s : ByteArray) (hs : s.size ≤ 100000) (k : Nat) (hk : 2 * s.size + 2 ≤ k) : ∃ b, laws_braced.f k s = some b ∧ (b = true → cntO (bys s) = cntB (bys s)) :=
  braced_l s hs (s.size + 1) k 0 false (by omega) (by omega) (by omega) (by simp [cntO, cntB])
end Go.Proofs.YtpdnjgbcnnjdiaaDoor
