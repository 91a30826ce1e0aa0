/- The printed functions on texts, as functions on lists: parted, joinTexts, stripped, plain and their like. -/
import Derived.Test.YtpdnjgbcnnjdiaaDoorHost
import Derived.Test.YtpdnjgbcnnjdiaaDoorPFnMatchx1
import Derived.Test.YtpdnjgbcnnjdiaaDoorPFnMatchx3
namespace Go.Proofs.YtpdnjgbcnnjdiaaDoor
open Go Go.RowKit Go.Proofs.YtpdnjgbcnnjdiaaDoorW.PrintWords Go.Proofs.YtpdnjgbcnnjdiaaDoor.PFnMatch
set_option linter.unusedVariables false
set_option linter.unusedSimpArgs false

/-- The pieces of a text between the places of a byte; seg stands ahead of it. -/
def splitB (y : UInt8) : Bs → Bs → List Bs
  | seg, [] => [seg]
  | seg, c :: r => if c = y then seg :: splitB y [] r else splitB y (seg ++ [c]) r
/-- Texts with another one between them. -/
def joinB (sep : Bs) : List Bs → Bs
  | [] => []
  | a :: r => a ++ r.flatMap (fun x => sep ++ x)

theorem wrap_nat (n : Nat) (h : n < 1000000) : wrap64 ((n : Int) + 1) = ((n + 1 : Nat) : Int) := by unfold wrap64; omega
theorem bt_eq (s : ByteArray) (k : Nat) (h : k < s.size) (y : UInt8) : (bt s (k : Int) = (y.toNat : Int)) ↔ s.data.toList[k]'(by rw [size_list]; exact h) = y := by
  rw [bt_nat s k h]
  constructor
  · intro h2; exact UInt8.toNat_inj.1 (by omega)
  · intro h2; rw [h2]
theorem ext_mk (s : ByteArray) (a b : Nat) : s.extract a b = mkS ((s.data.toList.take b).drop a) := by
  rw [← mkS_self (s.extract a b), ext_list, List.drop_take]

theorem parted_l (s : ByteArray) (y : UInt8) (hs : s.size ≤ 100000) : ∀ (n k i f : Nat) (acc : List ByteArray), s.size - i < n → n ≤ k → i ≤ s.size → f ≤ i → acc.length ≤ i →
    spec_parted.l0 k s (y.toNat : Int) acc (f : Int) (s.size : Int) (i : Int) = some (acc ++ (splitB y ((s.data.toList.take i).drop f) (s.data.toList.drop i)).map mkS) := by
  intro n
  induction n with
  | zero => intro k i f acc h; omega
  | succ n ih =>
    intro k i f acc hn hk hi hf ha
    obtain ⟨k, rfl⟩ : ∃ m, k = m + 1 := ⟨k - 1, by omega⟩
    unfold spec_parted.l0
    by_cases h : i < s.size
    · have hl : i < s.data.toList.length := by rw [size_list]; exact h
      rw [if_pos (by omega), if_pos (by omega), if_pos (by omega), wrap_nat i (by omega), List.drop_eq_getElem_cons hl]
      by_cases hy : s.data.toList[i] = y
      · rw [if_pos ((bt_eq s i h y).2 hy), if_pos (by omega), if_pos (by omega), if_pos (by omega), if_pos (by omega)]
        rw [ih k (i + 1) (i + 1) _ (by omega) (by omega) (by omega) (by omega) (by simp; omega)]
        rw [splitB, if_pos hy, drop_take_nil]
        simp [ext_mk]
      · rw [if_neg (fun h2 => hy ((bt_eq s i h y).1 h2)), ih k (i + 1) f _ (by omega) (by omega) (by omega) (by omega) (by omega)]
        rw [splitB, if_neg hy]
        congr 4
        rw [List.take_add_one, List.getElem?_eq_getElem hl, List.drop_append_of_le_length (by rw [List.length_take]; omega)]
        rfl
    · have hi2 : i = s.size := by omega
      subst hi2
      rw [if_neg (by omega), if_pos (by omega), if_pos (by omega), if_pos (by omega)]
      rw [List.drop_of_length_le (l := s.data.toList) (by rw [size_list]; exact Nat.le_refl _)]
      simp [ext_mk, splitB]
theorem parted_f (s : ByteArray) (y : UInt8) (hs : s.size ≤ 100000) (k : Nat) (hk : s.size < k) : spec_parted.f k s (y.toNat : Int) = some ((splitB y [] s.data.toList).map mkS) := by
  have := parted_l s y hs (s.size + 1) k 0 0 [] (by omega) (by omega) (by omega) (by omega) (by simp)
  simpa [spec_parted.f] using this

theorem joinB_snoc (sep : Bs) (l : List Bs) (x : Bs) (h : l ≠ []) : joinB sep (l ++ [x]) = joinB sep l ++ sep ++ x := by
  cases l with
  | nil => exact absurd rfl h
  | cons a r => simp [joinB]
theorem mkS_append (a b : Bs) : mkS a ++ mkS b = mkS (a ++ b) := by
  apply mkS_eq
  simp [mkS]
theorem rdOf_mk (l : List Bs) (i : Nat) (h : i < l.length) : rdOf ByteArray.empty (l.map mkS) (i : Int) = mkS l[i] := by
  simp [rdOf, List.getD, h]
theorem joinTexts_l (sep : Bs) (l : List Bs) (hl : l.length ≤ 100000) (hb : (joinB sep l).length ≤ 1000000) : ∀ (n k i : Nat), l.length - i < n → n ≤ k → i ≤ l.length →
    spec_joinTexts.l0 k (mkS sep) (mkS (joinB sep (l.take i))) (l.map mkS) (l.length : Int) (i : Int) = some (mkS (joinB sep l)) := by
  have hpre : ∀ i, (joinB sep (l.take i)).length ≤ (joinB sep l).length := by
    intro i
    cases l with
    | nil => simp [joinB]
    | cons a r =>
      cases i with
      | zero => simp [joinB]
      | succ i =>
        simp only [List.take_succ_cons, joinB, List.length_append]
        have : ((r.take i).flatMap fun x => sep ++ x).length ≤ (r.flatMap fun x => sep ++ x).length := by
          conv => rhs; rw [← List.take_append_drop i r]
          rw [List.flatMap_append, List.length_append]
          omega
        omega
  intro n
  induction n with
  | zero => intro k i h; omega
  | succ n ih =>
    intro k i hn hk hi
    obtain ⟨k, rfl⟩ : ∃ m, k = m + 1 := ⟨k - 1, by omega⟩
    unfold spec_joinTexts.l0
    by_cases h : i < l.length
    · have ht : l.take (i + 1) = l.take i ++ [l[i]] := by rw [List.take_add_one, List.getElem?_eq_getElem h]; rfl
      have hp := hpre (i + 1)
      have hlm : (l.map mkS).length = l.length := by simp
      rw [if_pos (by omega), if_pos (by omega), if_pos (by rw [hlm]; omega), wrap_nat i (by omega), rdOf_mk l i h]
      have key := ih k (i + 1) (by omega) (by omega) (by omega)
      rw [ht] at key hp
      by_cases h0 : 0 < i
      · have hne : l.take i ≠ [] := by intro h2; have := congrArg List.length h2; rw [List.length_take, List.length_nil] at this; omega
        rw [joinB_snoc sep _ _ hne] at key
        have hp2 : (joinB sep (l.take i)).length + sep.length + (l[i]).length ≤ 1000000 := by
          rw [joinB_snoc sep _ _ hne, List.length_append, List.length_append] at hp
          omega
        have hgt : ((i : Int) > 0) := by omega
        rw [if_pos hgt, mkS_append, mkS_append]
        simp only [mkS_size, List.length_append]
        rw [if_pos (by omega), if_pos (by omega)]
        exact key
      · have hi0 : i = 0 := by omega
        subst hi0
        rw [if_neg (by simp)]
        have h1 : joinB sep (l.take 0 ++ [l[0]]) = l[0] := by simp [joinB]
        rw [h1] at key hp
        rw [mkS_append, show joinB sep (l.take 0) = [] from by simp [joinB], List.nil_append, if_pos (by rw [mkS_size, mkS_size]; simp; omega)]
        exact key
    · have : i = l.length := by omega
      subst this
      rw [if_neg (by omega), List.take_length]
theorem joinTexts_f (sep : Bs) (l : List Bs) (hl : l.length ≤ 100000) (hb : (joinB sep l).length ≤ 1000000) (k : Nat) (hk : l.length < k) : spec_joinTexts.f k (l.map mkS) (mkS sep) = some (mkS (joinB sep l)) := by
  have := joinTexts_l sep l hl hb (l.length + 1) k 0 (by omega) (by omega) (by omega)
  rw [show joinB sep (l.take 0) = [] from by simp [joinB]] at this
  unfold spec_joinTexts.f
  rw [List.length_map]
  exact this

theorem plain_l (s : ByteArray) (hs : s.size ≤ 2147483647) : ∀ (n k i : Nat), s.size - i < n → n ≤ k → i ≤ s.size →
    laws_plain.l0 k s (s.size : Int) (i : Int) = some (decide (s.size ≤ 60 ∧ ∀ b ∈ s.data.toList.drop i, 32 ≤ b.toNat ∧ b.toNat ≤ 126)) := by
  intro n
  induction n with
  | zero => intro k i h; omega
  | succ n ih =>
    intro k i hn hk hi
    obtain ⟨k, rfl⟩ : ∃ m, k = m + 1 := ⟨k - 1, by omega⟩
    unfold laws_plain.l0
    by_cases h : i < s.size
    · have hl : i < s.data.toList.length := by rw [size_list]; exact h
      rw [if_pos (by omega), if_pos (by omega), if_pos (by omega), bt_nat s i h, List.drop_eq_getElem_cons hl]
      by_cases h1 : ((s.data.toList[i]).toNat : Int) > 126
      · rw [if_pos h1]
        congr 1
        symm
        rw [decide_eq_false_iff_not]
        intro h2
        have := h2.2 _ (List.mem_cons_self ..)
        omega
      · rw [if_neg h1]
        by_cases h2 : ((s.data.toList[i]).toNat : Int) < 32
        · rw [if_pos h2]
          congr 1
          symm
          rw [decide_eq_false_iff_not]
          intro h3
          have := h3.2 _ (List.mem_cons_self ..)
          omega
        · rw [if_neg h2, show wrap64 ((i : Int) + 1) = ((i + 1 : Nat) : Int) from by unfold wrap64; omega, ih k (i + 1) (by omega) (by omega) (by omega)]
          congr 1
          rw [decide_eq_decide]
          constructor
          · rintro ⟨ha, hb⟩
            refine ⟨ha, fun b hm => ?_⟩
            rcases List.mem_cons.1 hm with rfl | hm
            · omega
            · exact hb b hm
          · rintro ⟨ha, hb⟩
            exact ⟨ha, fun b hm => hb b (List.mem_cons_of_mem _ hm)⟩
    · have : i = s.size := by omega
      subst this
      rw [if_neg (by omega), List.drop_of_length_le (by rw [size_list]; exact Nat.le_refl _)]
      congr 1
      rw [decide_eq_decide]
      simp
      omega
/-- What plain says of a text. -/
def Plain (s : ByteArray) : Prop := s.size ≤ 60 ∧ ∀ b ∈ s.data.toList, 32 ≤ b.toNat ∧ b.toNat ≤ 126
instance (s : ByteArray) : Decidable (Plain s) := inferInstanceAs (Decidable (_ ∧ _))
theorem plain_f (s : ByteArray) (hs : s.size ≤ 2147483647) (k : Nat) (hk : s.size < k) : laws_plain.f k s = some (decide (Plain s)) := by
  have := plain_l s hs (s.size + 1) k 0 (by omega) (by omega) (by omega)
  simpa [laws_plain.f, Plain] using this
end Go.Proofs.YtpdnjgbcnnjdiaaDoor
