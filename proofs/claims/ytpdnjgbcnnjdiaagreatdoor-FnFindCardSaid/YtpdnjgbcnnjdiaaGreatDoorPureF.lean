/- What the law FnFind's printed functions compute, as functions on lists. -/
import Derived.Test.YtpdnjgbcnnjdiaaGreatDoorPathsMap
import Derived.Test.YtpdnjgbcnnjdiaaGreatDoorSort
import Derived.Test.YtpdnjgbcnnjdiaaGreatDoorPFnFindx1
import Derived.Test.YtpdnjgbcnnjdiaaGreatDoorFixFind
namespace Go.Proofs.YtpdnjgbcnnjdiaaGreatDoor
open Go Go.RowKit Go.Proofs.YtpdnjgbcnnjdiaaGreatDoorW.PrintWords Go.Proofs.YtpdnjgbcnnjdiaaGreatDoor.PFnFind
set_option linter.unusedVariables false
set_option linter.unusedSimpArgs false

theorem bt_nat (s : ByteArray) (k : Nat) (h : k < s.size) : bt s (k : Int) = ((s.data.toList[k]'(by rw [Array.length_toList]; exact h)).toNat : Int) := by
  unfold bt
  rw [dif_pos (by simpa using h)]
  simp [ByteArray.getElem_eq_getElem_data]
theorem drop_take_nil (l : Bs) (k : Nat) : (l.take k).drop k = [] := by simp
/-- The pieces of a text between the places of a byte; seg stands ahead of it. -/
def splitB (y : UInt8) : Bs → Bs → List Bs
  | seg, [] => [seg]
  | seg, c :: r => if c = y then seg :: splitB y [] r else splitB y (seg ++ [c]) r
/-- Texts with another one between them. -/
def joinB (sep : Bs) : List Bs → Bs
  | [] => []
  | a :: r => a ++ r.flatMap (fun x => sep ++ x)
theorem wrap_nat (n : Nat) (h : n < 1000000) : wrap64 ((n : Int) + 1) = ((n + 1 : Nat) : Int) := by unfold wrap64; omega
theorem bt_eq (s : ByteArray) (k : Nat) (h : k < s.size) (y : UInt8) : (bt s (k : Int) = (y.toNat : Int)) ↔ s.data.toList[k]'(by rw [size_list]; exact h) = y := by
  rw [bt_nat s k h]
  constructor
  · intro h2; exact UInt8.toNat_inj.1 (by omega)
  · intro h2; rw [h2]
theorem ext_mk (s : ByteArray) (a b : Nat) : s.extract a b = mkS ((s.data.toList.take b).drop a) := by
  rw [← mkS_self (s.extract a b), ext_list, List.drop_take]
theorem parted_l (s : ByteArray) (y : UInt8) (hs : s.size ≤ 100000) : ∀ (n k i f : Nat) (acc : List ByteArray), s.size - i < n → n ≤ k → i ≤ s.size → f ≤ i → acc.length ≤ i →
    spec_parted.l0 k s (y.toNat : Int) acc (f : Int) (s.size : Int) (i : Int) = some (acc ++ (splitB y ((s.data.toList.take i).drop f) (s.data.toList.drop i)).map mkS) := by
  intro n
  induction n with
  | zero => intro k i f acc h; omega
  | succ n ih =>
    intro k i f acc hn hk hi hf ha
    obtain ⟨k, rfl⟩ : ∃ m, k = m + 1 := ⟨k - 1, by omega⟩
    unfold spec_parted.l0
    by_cases h : i < s.size
    · have hl : i < s.data.toList.length := by rw [size_list]; exact h
      rw [if_pos (by omega), if_pos (by omega), if_pos (by omega), wrap_nat i (by omega), List.drop_eq_getElem_cons hl]
      by_cases hy : s.data.toList[i] = y
      · rw [if_pos ((bt_eq s i h y).2 hy), if_pos (by omega), if_pos (by omega), if_pos (by omega), if_pos (by omega)]
        rw [ih k (i + 1) (i + 1) _ (by omega) (by omega) (by omega) (by omega) (by simp; omega)]
        rw [splitB, if_pos hy, drop_take_nil]
        simp [ext_mk]
      · rw [if_neg (fun h2 => hy ((bt_eq s i h y).1 h2)), ih k (i + 1) f _ (by omega) (by omega) (by omega) (by omega) (by omega)]
        rw [splitB, if_neg hy]
        congr 4
        rw [List.take_add_one, List.getElem?_eq_getElem hl, List.drop_append_of_le_length (by rw [List.length_take]; omega)]
        rfl
    · have hi2 : i = s.size := by omega
      subst hi2
      rw [if_neg (by omega), if_pos (by omega), if_pos (by omega), if_pos (by omega)]
      rw [List.drop_of_length_le (l := s.data.toList) (by rw [size_list]; exact Nat.le_refl _)]
      simp [ext_mk, splitB]
theorem parted_f (s : ByteArray) (y : UInt8) (hs : s.size ≤ 100000) (k : Nat) (hk : s.size < k) : spec_parted.f k s (y.toNat : Int) = some ((splitB y [] s.data.toList).map mkS) := by
  have := parted_l s y hs (s.size + 1) k 0 0 [] (by omega) (by omega) (by omega) (by omega) (by simp)
  simpa [spec_parted.f] using this
theorem joinB_snoc (sep : Bs) (l : List Bs) (x : Bs) (h : l ≠ []) : joinB sep (l ++ [x]) = joinB sep l ++ sep ++ x := by
  cases l with
  | nil => exact absurd rfl h
  | cons a r => simp [joinB]
theorem mkS_append (a b : Bs) : mkS a ++ mkS b = mkS (a ++ b) := by
  apply mkS_eq
  simp [mkS]
theorem rdOf_mk (l : List Bs) (i : Nat) (h : i < l.length) : rdOf ByteArray.empty (l.map mkS) (i : Int) = mkS l[i] := by
  simp [rdOf, List.getD, h]
theorem joinTexts_l (sep : Bs) (l : List Bs) (hl : l.length ≤ 100000) (hb : (joinB sep l).length ≤ 1000000) : ∀ (n k i : Nat), l.length - i < n → n ≤ k → i ≤ l.length →
    spec_joinTexts.l0 k (mkS sep) (mkS (joinB sep (l.take i))) (l.map mkS) (l.length : Int) (i : Int) = some (mkS (joinB sep l)) := by
  have hpre : ∀ i, (joinB sep (l.take i)).length ≤ (joinB sep l).length := by
    intro i
    cases l with
    | nil => simp [joinB]
    | cons a r =>
      cases i with
      | zero => simp [joinB]
      | succ i =>
        simp only [List.take_succ_cons, joinB, List.length_append]
        have : ((r.take i).flatMap fun x => sep ++ x).length ≤ (r.flatMap fun x => sep ++ x).length := by
          conv => rhs; rw [← List.take_append_drop i r]
          rw [List.flatMap_append, List.length_append]
          omega
        omega
  intro n
  induction n with
  | zero => intro k i h; omega
  | succ n ih =>
    intro k i hn hk hi
    obtain ⟨k, rfl⟩ : ∃ m, k = m + 1 := ⟨k - 1, by omega⟩
    unfold spec_joinTexts.l0
    by_cases h : i < l.length
    · have ht : l.take (i + 1) = l.take i ++ [l[i]] := by rw [List.take_add_one, List.getElem?_eq_getElem h]; rfl
      have hp := hpre (i + 1)
      have hlm : (l.map mkS).length = l.length := by simp
      rw [if_pos (by omega), if_pos (by omega), if_pos (by rw [hlm]; omega), wrap_nat i (by omega), rdOf_mk l i h]
      have key := ih k (i + 1) (by omega) (by omega) (by omega)
      rw [ht] at key hp
      by_cases h0 : 0 < i
      · have hne : l.take i ≠ [] := by intro h2; have := congrArg List.length h2; rw [List.length_take, List.length_nil] at this; omega
        rw [joinB_snoc sep _ _ hne] at key
        have hp2 : (joinB sep (l.take i)).length + sep.length + (l[i]).length ≤ 1000000 := by
          rw [joinB_snoc sep _ _ hne, List.length_append, List.length_append] at hp
          omega
        have hgt : ((i : Int) > 0) := by omega
        rw [if_pos hgt, mkS_append, mkS_append]
        simp only [mkS_size, List.length_append]
        rw [if_pos (by omega), if_pos (by omega)]
        exact key
      · have hi0 : i = 0 := by omega
        subst hi0
        rw [if_neg (by simp)]
        have h1 : joinB sep (l.take 0 ++ [l[0]]) = l[0] := by simp [joinB]
        rw [h1] at key hp
        rw [mkS_append, show joinB sep (l.take 0) = [] from by simp [joinB], List.nil_append, if_pos (by rw [mkS_size, mkS_size]; simp; omega)]
        exact key
    · have : i = l.length := by omega
      subst this
      rw [if_neg (by omega), List.take_length]
theorem joinTexts_f (sep : Bs) (l : List Bs) (hl : l.length ≤ 100000) (hb : (joinB sep l).length ≤ 1000000) (k : Nat) (hk : l.length < k) : spec_joinTexts.f k (l.map mkS) (mkS sep) = some (mkS (joinB sep l)) := by
  have := joinTexts_l sep l hl hb (l.length + 1) k 0 (by omega) (by omega) (by omega)
  rw [show joinB sep (l.take 0) = [] from by simp [joinB]] at this
  unfold spec_joinTexts.f
  rw [List.length_map]
  exact this
theorem plain_l (s : ByteArray) (hs : s.size ≤ 2147483647) : ∀ (n k i : Nat), s.size - i < n → n ≤ k → i ≤ s.size →
    laws_plain.l0 k s (s.size : Int) (i : Int) = some (decide (s.size ≤ 60 ∧ ∀ b ∈ s.data.toList.drop i, 32 ≤ b.toNat ∧ b.toNat ≤ 126)) := by
  intro n
  induction n with
  | zero => intro k i h; omega
  | succ n ih =>
    intro k i hn hk hi
    obtain ⟨k, rfl⟩ : ∃ m, k = m + 1 := ⟨k - 1, by omega⟩
    unfold laws_plain.l0
    by_cases h : i < s.size
    · have hl : i < s.data.toList.length := by rw [size_list]; exact h
      rw [if_pos (by omega), if_pos (by omega), if_pos (by omega), bt_nat s i h, List.drop_eq_getElem_cons hl]
      by_cases h1 : ((s.data.toList[i]).toNat : Int) > 126
      · rw [if_pos h1]
        congr 1
        symm
        rw [decide_eq_false_iff_not]
        intro h2
        have := h2.2 _ (List.mem_cons_self ..)
        omega
      · rw [if_neg h1]
        by_cases h2 : ((s.data.toList[i]).toNat : Int) < 32
        · rw [if_pos h2]
          congr 1
          symm
          rw [decide_eq_false_iff_not]
          intro h3
          have := h3.2 _ (List.mem_cons_self ..)
          omega
        · rw [if_neg h2, show wrap64 ((i : Int) + 1) = ((i + 1 : Nat) : Int) from by unfold wrap64; omega, ih k (i + 1) (by omega) (by omega) (by omega)]
          congr 1
          rw [decide_eq_decide]
          constructor
          · rintro ⟨ha, hb⟩
            refine ⟨ha, fun b hm => ?_⟩
            rcases List.mem_cons.1 hm with rfl | hm
            · omega
            · exact hb b hm
          · rintro ⟨ha, hb⟩
            exact ⟨ha, fun b hm => hb b (List.mem_cons_of_mem _ hm)⟩
    · have : i = s.size := by omega
      subst this
      rw [if_neg (by omega), List.drop_of_length_le (by rw [size_list]; exact Nat.le_refl _)]
      congr 1
      rw [decide_eq_decide]
      simp
      omega
/-- What plain says of a text. -/
def Plain (s : ByteArray) : Prop := s.size ≤ 60 ∧ ∀ b ∈ s.data.toList, 32 ≤ b.toNat ∧ b.toNat ≤ 126
instance (s : ByteArray) : Decidable (Plain s) := inferInstanceAs (Decidable (_ ∧ _))
theorem plain_f (s : ByteArray) (hs : s.size ≤ 2147483647) (k : Nat) (hk : s.size < k) : laws_plain.f k s = some (decide (Plain s)) := by
  have := plain_l s hs (s.size + 1) k 0 (by omega) (by omega) (by omega)
  simpa [laws_plain.f, Plain] using this
def Cst (x : Bs) : Prop := ∀ b ∈ x, b ≠ 47 ∧ b ≠ 123 ∧ b ≠ 125
def wordB (b : UInt8) : Prop := (97 ≤ b.toNat ∧ b.toNat ≤ 122) ∨ (65 ≤ b.toNat ∧ b.toNat ≤ 90) ∨ (48 ≤ b.toNat ∧ b.toNat ≤ 57) ∨ b.toNat = 95
def Vrb (x : Bs) : Prop := ∃ nm : Bs, nm ≠ [] ∧ (∀ b ∈ nm, wordB b) ∧ x = 123 :: (nm ++ [125])
def Rst (x : Bs) : Prop := ∃ nm : Bs, nm ≠ [] ∧ (∀ b ∈ nm, wordB b) ∧ x = 123 :: (nm ++ [42, 125])
theorem word_ne {b : UInt8} (h : wordB b) : b ≠ 42 ∧ b ≠ 47 ∧ b ≠ 123 ∧ b ≠ 125 := by
  unfold wordB at h
  refine ⟨?_, ?_, ?_, ?_⟩ <;> (rintro rfl; revert h; decide)
def tailB (ps : List Bs) : Bs := ps.flatMap fun p => 47 :: p
theorem tailB_cons (x : Bs) (xs : List Bs) : tailB (x :: xs) = 47 :: (x ++ tailB xs) := rfl
theorem joinB_cons (x : Bs) (xs : List Bs) : joinB [47] (x :: xs) = x ++ tailB xs := rfl
/-- A prefix that pieces has passed: its last part is constant (0), a variable (1), one for all the rest (2). -/
def PS (p : Bs) (f : Nat) : Prop := ∃ (i : List Bs) (x : Bs), p = joinB [47] (i ++ [x]) ∧ (∀ z ∈ i, Cst z ∨ Vrb z) ∧ (∀ z, i.head? = some z → Cst z) ∧ ((f = 0 ∧ Cst x) ∨ (f = 1 ∧ Vrb x ∧ i ≠ []) ∨ (f = 2 ∧ Rst x ∧ i ≠ []))
theorem cst_nil : Cst [] := by intro b hb; cases hb
theorem PS_nil : PS [] 0 := ⟨[], [], rfl, by simp, by simp, .inl ⟨rfl, cst_nil⟩⟩
theorem joinB_app (i : List Bs) (x z : Bs) : joinB [47] (i ++ [x]) ++ z = joinB [47] (i ++ [x ++ z]) := by
  cases i with
  | nil => simp [joinB]
  | cons a r => simp [joinB]
theorem PS_slash {p : Bs} {f : Nat} (h : PS p f) (hf : f ≠ 2) : PS (p ++ [47]) 0 := by
  obtain ⟨i, x, rfl, h1, h2, h3⟩ := h
  refine ⟨i ++ [x], [], ?_, ?_, ?_, .inl ⟨rfl, cst_nil⟩⟩
  · rw [joinB_snoc [47] (i ++ [x]) [] (by simp)]; simp
  · intro z hz
    rcases List.mem_append.1 hz with hz | hz
    · exact h1 z hz
    · rw [List.mem_singleton.1 hz]
      rcases h3 with ⟨_, h⟩ | ⟨_, h, _⟩ | ⟨h, _⟩
      · exact .inl h
      · exact .inr h
      · exact absurd h hf
  · intro z hz
    cases i with
    | nil =>
      simp at hz
      subst hz
      rcases h3 with ⟨_, h⟩ | ⟨_, _, h⟩ | ⟨_, _, h⟩
      · exact h
      · exact absurd rfl h
      · exact absurd rfl h
    | cons a r => exact h2 z (by simpa using hz)
theorem PS_other {p : Bs} {b : UInt8} (h : PS p 0) (h47 : b ≠ 47) (h123 : b ≠ 123) (h125 : b ≠ 125) : PS (p ++ [b]) 0 := by
  obtain ⟨i, x, rfl, h1, h2, h3⟩ := h
  have hx : Cst x := by rcases h3 with ⟨_, h⟩ | ⟨h, _⟩ | ⟨h, _⟩ <;> first | exact h | cases h
  refine ⟨i, x ++ [b], joinB_app _ _ _, h1, h2, .inl ⟨rfl, ?_⟩⟩
  intro c hc
  rcases List.mem_append.1 hc with hc | hc
  · exact hx c hc
  · rw [List.mem_singleton.1 hc]; exact ⟨h47, h123, h125⟩
theorem PS_open {p : Bs} (h : PS p 0) (hl : p.getLast? = some 47) : ∃ i : List Bs, i ≠ [] ∧ p = joinB [47] (i ++ [[]]) ∧ (∀ z ∈ i, Cst z ∨ Vrb z) ∧ (∀ z, i.head? = some z → Cst z) := by
  obtain ⟨i, x, rfl, h1, h2, h3⟩ := h
  have hx : Cst x := by rcases h3 with ⟨_, h⟩ | ⟨h, _⟩ | ⟨h, _⟩ <;> first | exact h | cases h
  have h0 : x = [] := by
    cases hr : x.reverse with
    | nil => simpa using hr
    | cons b r =>
      have hxe : x = r.reverse ++ [b] := by rw [← List.reverse_reverse x, hr]; simp
      rw [hxe, ← joinB_app] at hl
      simp at hl
      exact ((hx b (by rw [hxe]; simp)).1 hl).elim
  subst h0
  refine ⟨i, ?_, rfl, h1, h2⟩
  rintro rfl
  simp [joinB] at hl
theorem PS_var {p nm : Bs} (h : PS p 0) (hl : p.getLast? = some 47) (h0 : nm ≠ []) (hw : ∀ b ∈ nm, wordB b) : PS (p ++ 123 :: (nm ++ [125])) 1 := by
  obtain ⟨i, hi, rfl, h1, h2⟩ := PS_open h hl
  exact ⟨i, 123 :: (nm ++ [125]), by rw [joinB_app]; simp, h1, h2, .inr (.inl ⟨rfl, ⟨nm, h0, hw, rfl⟩, hi⟩)⟩
theorem PS_rest {p nm : Bs} (h : PS p 0) (hl : p.getLast? = some 47) (h0 : nm ≠ []) (hw : ∀ b ∈ nm, wordB b) : PS (p ++ 123 :: (nm ++ [42, 125])) 2 := by
  obtain ⟨i, hi, rfl, h1, h2⟩ := PS_open h hl
  exact ⟨i, 123 :: (nm ++ [42, 125]), by rw [joinB_app]; simp, h1, h2, .inr (.inr ⟨rfl, ⟨nm, h0, hw, rfl⟩, hi⟩)⟩
def ppB : Bool → Bs → Bs
  | _, [] => []
  | w, c :: r => if c = 123 then 123 :: ppB true r else if c = 125 then 125 :: ppB false r else if w = false ∨ c = 42 then c :: ppB w r else ppB w r
theorem pp_cst (x r : Bs) (h : ∀ b ∈ x, b ≠ 123 ∧ b ≠ 125) : ppB false (x ++ r) = x ++ ppB false r := by
  induction x with
  | nil => rfl
  | cons a t ih =>
    have ha := h a (by simp)
    rw [List.cons_append, ppB, if_neg ha.1, if_neg ha.2, if_pos (.inl rfl), ih (fun b hb => h b (List.mem_cons_of_mem _ hb))]
    rfl
abbrev bys (s : ByteArray) : Bs := s.data.toList
theorem wrap_any (x : Int) (h : -1000000 ≤ x) (h' : x ≤ 1000000) : wrap64 x = x := by unfold wrap64; omega
theorem bt42 (s : ByteArray) (k : Nat) (h : k < s.size) : (bt s (k : Int) = 42) ↔ s.data.toList[k]'(by rw [size_list]; exact h) = 42 := bt_eq s k h 42
theorem bt47 (s : ByteArray) (k : Nat) (h : k < s.size) : (bt s (k : Int) = 47) ↔ s.data.toList[k]'(by rw [size_list]; exact h) = 47 := bt_eq s k h 47
theorem bt123 (s : ByteArray) (k : Nat) (h : k < s.size) : (bt s (k : Int) = 123) ↔ s.data.toList[k]'(by rw [size_list]; exact h) = 123 := bt_eq s k h 123
theorem bt125 (s : ByteArray) (k : Nat) (h : k < s.size) : (bt s (k : Int) = 125) ↔ s.data.toList[k]'(by rw [size_list]; exact h) = 125 := bt_eq s k h 125
theorem take_succ (l : Bs) (i : Nat) (h : i < l.length) : l.take (i + 1) = l.take i ++ [l[i]] := by
  rw [List.take_add_one, List.getElem?_eq_getElem h]; rfl
theorem word_f (b : UInt8) : ∃ r, spec_word.f ((b.toNat : Nat) : Int) = some r ∧ (r = true ↔ wordB b) := by
  have hb : b.toNat < 256 := b.toNat_lt
  unfold spec_word.f wordB
  repeat' split
  all_goals refine ⟨_, rfl, ?_⟩
  all_goals simp only [beq_iff_eq, true_iff]
  all_goals omega
theorem pp_l (s : ByteArray) (hs : s.size ≤ 100000) : ∀ (n k i : Nat) (acc : Bs) (w : Bool), s.size - i < n → n ≤ k → i ≤ s.size → acc.length ≤ i → spec_plainPath.l0 k s (mkS acc) w (s.size : Int) (i : Int) = some (mkS (acc ++ ppB w ((bys s).drop i))) := by
  intro n
  induction n with
  | zero => intro k i acc w h; omega
  | succ n ih =>
    intro k i acc w hn hk hi ha
    obtain ⟨k, rfl⟩ : ∃ m, k = m + 1 := ⟨k - 1, by omega⟩
    unfold spec_plainPath.l0
    by_cases h : i < s.size
    · have hl : i < s.data.toList.length := by rw [size_list]; exact h
      have hap : ∀ z : Bs, mkS acc ++ (⟨z.toArray⟩ : ByteArray) = mkS (acc ++ z) := fun z => mkS_append acc z
      have hbx : s.extract i (i + 1) = mkS [s.data.toList[i]] := by
        rw [ext_mk, take_succ _ _ hl, List.drop_append_of_le_length (by simp; omega), drop_take_nil]
        rfl
      rw [if_pos (by omega), if_pos (by omega), if_pos (by omega), wrap_nat i (by omega), List.drop_eq_getElem_cons hl]
      have hsz : (mkS acc).size = acc.length := mkS_size acc
      by_cases h123 : s.data.toList[i] = 123
      · rw [if_pos ((bt123 s i h).2 h123), if_pos (by rw [hsz]; omega)]
        rw [show (⟨#[123]⟩ : ByteArray) = mkS [123] from rfl, mkS_append, ih k (i + 1) _ true (by omega) (by omega) (by omega) (by simp; omega)]
        rw [h123, ppB, if_pos rfl]
        simp
      · rw [if_neg (fun e => h123 ((bt123 s i h).1 e))]
        by_cases h125 : s.data.toList[i] = 125
        · rw [if_pos ((bt125 s i h).2 h125), if_pos (by rw [hsz]; omega)]
          rw [show (⟨#[125]⟩ : ByteArray) = mkS [125] from rfl, mkS_append, ih k (i + 1) _ false (by omega) (by omega) (by omega) (by simp; omega)]
          rw [h125, ppB, if_neg (by decide), if_pos rfl]
          simp
        · rw [if_neg (fun e => h125 ((bt125 s i h).1 e))]
          have happ : ∀ w, spec_plainPath.l0 k s (mkS acc ++ s.extract i (i + 1)) w (s.size : Int) ((i + 1 : Nat) : Int) = some (mkS (acc ++ s.data.toList[i] :: ppB w ((bys s).drop (i + 1)))) := fun w => by
            rw [hbx, mkS_append, ih k (i + 1) _ w (by omega) (by omega) (by omega) (by simp; omega)]
            simp
          have hcut : ∀ w, (if ((i : Nat) : Int) ≤ ((i + 1 : Nat) : Int) then (if ((i + 1 : Nat) : Int) ≤ (s.size : Int) then (if (mkS acc).size + (s.extract ((i : Nat) : Int).toNat ((i + 1 : Nat) : Int).toNat).size ≤ 9223372036854775807 then (spec_plainPath.l0 k s (mkS acc ++ (s.extract ((i : Nat) : Int).toNat ((i + 1 : Nat) : Int).toNat)) w (s.size : Int) ((i + 1 : Nat) : Int)) else none) else none) else none) = some (mkS (acc ++ s.data.toList[i] :: ppB w ((bys s).drop (i + 1)))) := fun w => by
            rw [if_pos (by omega), if_pos (by omega), if_pos ?_]
            · exact happ w
            · show (mkS acc).size + (s.extract i (i + 1)).size ≤ _
              rw [hsz, hbx, mkS_size]
              simp
              omega
          rw [ppB, if_neg h123, if_neg h125]
          cases w with
          | true =>
            rw [if_pos rfl]
            by_cases h42 : s.data.toList[i] = 42
            · rw [if_pos ((bt42 s i h).2 h42), if_pos (show (true = false ∨ s.data.toList[i] = 42) from .inr h42)]
              exact hcut true
            · rw [if_neg (fun e => h42 ((bt42 s i h).1 e)), if_neg (show ¬ (true = false ∨ s.data.toList[i] = 42) from by simp; simpa using h42)]
              exact ih k (i + 1) acc true (by omega) (by omega) (by omega) (by omega)
          | false =>
            rw [if_neg (by decide), if_pos (show (false = false ∨ s.data.toList[i] = 42) from .inl rfl)]
            exact hcut false
    · rw [if_neg (by omega), List.drop_of_length_le (by rw [size_list]; omega)]
      simp [ppB]
theorem pp_f (s : ByteArray) (hs : s.size ≤ 100000) (k : Nat) (hk : s.size < k) : spec_plainPath.f k s = some (mkS (ppB false (bys s))) := by
  have := pp_l s hs (s.size + 1) k 0 [] false (by omega) (by omega) (by omega) (by simp)
  rw [List.nil_append, List.drop_zero] at this
  exact this
theorem splitB_lenP (y : UInt8) : ∀ (l seg : Bs), (splitB y seg l).length ≤ l.length + 1 ∧ ∀ x ∈ splitB y seg l, x.length ≤ seg.length + l.length
  | [], seg => by simp [splitB]
  | c :: r, seg => by
    rw [splitB]
    split
    · obtain ⟨h1, h2⟩ := splitB_lenP y r []
      refine ⟨by simp; omega, fun x hx => ?_⟩
      rcases List.mem_cons.1 hx with rfl | hx
      · simp
      · have := h2 x hx; simp at this ⊢; omega
    · obtain ⟨h1, h2⟩ := splitB_lenP y r (seg ++ [c])
      refine ⟨by simp; omega, fun x hx => ?_⟩
      have := h2 x hx; simp at this ⊢; omega
theorem joinB_lenP (sep : Bs) (B : Nat) (l : List Bs) (h : ∀ x ∈ l, x.length ≤ B) : (joinB sep l).length ≤ l.length * (sep.length + B) := by
  cases l with
  | nil => simp [joinB]
  | cons a r =>
    have h1 : ∀ r : List Bs, (∀ x ∈ r, x.length ≤ B) → (r.flatMap fun x => sep ++ x).length ≤ r.length * (sep.length + B) := by
      intro r
      induction r with
      | nil => intro _; simp
      | cons b r ih =>
        intro hr
        have := ih fun x hx => hr x (List.mem_cons_of_mem _ hx)
        have hb := hr b (List.mem_cons_self ..)
        rw [List.flatMap_cons, List.length_append, List.length_append, List.length_cons, Nat.add_mul, Nat.one_mul]
        omega
    have h2 := h1 r fun x hx => h x (List.mem_cons_of_mem _ hx)
    have ha := h a (List.mem_cons_self ..)
    rw [joinB, List.length_append, List.length_cons, Nat.add_mul, Nat.one_mul]
    omega
section
variable (s : ByteArray)
def PG (o : Option (List S45 × Int)) : Prop := ∃ r, o = some r ∧ (r.2 = 1 → ∃ f, PS (bys s) f)
theorem PG_open (l : List S45) : PG s (some (l, 2)) := ⟨_, rfl, fun h => absurd h (by show ¬ (2 : Int) = 1; decide)⟩

theorem l2_g (acc : List S45) (e : Nat) (nm : ByteArray) (kind : Int) (hnm : nm.size ≤ 100000) : ∀ (n k j : Nat), nm.size - j < n → n ≤ k → j ≤ nm.size → (∀ b ∈ (bys nm).take j, wordB b) →
    ((∀ b ∈ bys nm, wordB b) → ∀ k', k ≤ k' + n → PG s (if nm.toList = ([] : List UInt8) then (some (([] : List S45), 2)) else (if kind = 2 then (if (wrap64 ((e : Int) + 1)) < (s.size : Int) then (some (([] : List S45), 2)) else (if acc.length < 5864062014805 then (spec_pieces.l0 k' s (acc ++ [(⟨nm, kind⟩ : S45)]) (wrap64 ((e : Int) + 1)) (wrap64 ((e : Int) + 1))) else (none))) else (if acc.length < 5864062014805 then (spec_pieces.l0 k' s (acc ++ [(⟨nm, kind⟩ : S45)]) (wrap64 ((e : Int) + 1)) (wrap64 ((e : Int) + 1))) else (none))))) →
    PG s (spec_pieces.l2 k s acc (e : Int) nm kind (nm.size : Int) (j : Int)) := by
  intro n
  induction n with
  | zero => intro k j h; omega
  | succ n ih =>
    intro k j hn hk hj hw hc
    obtain ⟨k, rfl⟩ : ∃ m, k = m + 1 := ⟨k - 1, by omega⟩
    rw [spec_pieces.l2]
    by_cases h : j < nm.size
    · have hl : j < nm.data.toList.length := by rw [size_list]; exact h
      obtain ⟨r, hr, hrw⟩ := word_f nm.data.toList[j]
      rw [if_pos (by omega), if_pos (by omega), if_pos (by omega), bt_nat nm j h, hr, Option.bind_some, wrap_nat j (by omega)]
      cases r with
      | true =>
        rw [if_pos rfl]
        refine ih k (j + 1) (by omega) (by omega) (by omega) ?_ (fun hall k' hk' => hc hall k' (by omega))
        intro b hb
        rw [take_succ _ _ hl] at hb
        rcases List.mem_append.1 hb with hb | hb
        · exact hw b hb
        · rw [List.mem_singleton.1 hb]; exact hrw.1 rfl
      | false =>
        rw [if_neg (by decide)]
        exact PG_open s _
    · rw [if_neg (by omega)]
      have hj2 : j = nm.size := by omega
      subst hj2
      rw [List.take_of_length_le (by rw [size_list]; exact Nat.le_refl _)] at hw
      exact hc hw k (by omega)

theorem l1_g (hs : s.size ≤ 100000) (acc : List S45) (i : Nat) : ∀ (n k e : Nat), s.size - e < n → n ≤ k → i + 1 ≤ e → e ≤ s.size → (∀ b ∈ ((bys s).take e).drop (i + 1), wordB b ∨ b = 42) →
    (∀ e k', i + 1 ≤ e → e ≤ s.size → (∀ b ∈ ((bys s).take e).drop (i + 1), wordB b ∨ b = 42) → k ≤ k' + n → PG s (spec_pieces.j3 k' s acc (i : Int) (e : Int))) →
    PG s (spec_pieces.l1 k s acc (i : Int) (e : Int)) := by
  intro n
  induction n with
  | zero => intro k e h; omega
  | succ n ih =>
    intro k e hn hk hie he hw hc
    obtain ⟨k, rfl⟩ : ∃ m, k = m + 1 := ⟨k - 1, by omega⟩
    rw [spec_pieces.l1]
    by_cases h : e < s.size
    · have hl : e < s.data.toList.length := by rw [size_list]; exact h
      obtain ⟨r, hr, hrw⟩ := word_f s.data.toList[e]
      rw [if_pos (by omega), if_pos (by omega), bt_nat s e h, hr, Option.bind_some, wrap_nat e (by omega)]
      have hnext : (wordB s.data.toList[e] ∨ s.data.toList[e] = 42) → PG s (spec_pieces.l1 k s acc (i : Int) ((e + 1 : Nat) : Int)) := fun hb => by
        refine ih k (e + 1) (by omega) (by omega) (by omega) (by omega) ?_ (fun e' k' h1 h2 h3 h4 => hc e' k' h1 h2 h3 (by omega))
        intro b hm
        rw [take_succ _ _ hl, List.drop_append_of_le_length (by rw [List.length_take]; omega)] at hm
        rcases List.mem_append.1 hm with hm | hm
        · exact hw b hm
        · rw [List.mem_singleton.1 hm]; exact hb
      cases r with
      | true =>
        rw [if_pos rfl]
        exact hnext (.inl (hrw.1 rfl))
      | false =>
        rw [if_neg (by decide), ← bt_nat s e h]
        by_cases h42 : s.data.toList[e] = 42
        · rw [if_pos ((bt42 s e h).2 h42)]
          exact hnext (.inr h42)
        · rw [if_neg (fun x => h42 ((bt42 s e h).1 x))]
          exact hc e k hie he hw (by omega)
    · rw [if_neg (by omega)]
      exact hc e k hie he hw (by omega)

theorem take_mid (l : Bs) (i e : Nat) (hie : i + 1 ≤ e) (he : e < l.length) : l.take (e + 1) = l.take i ++ l[i] :: ((l.take e).drop (i + 1) ++ [l[e]]) := by
  rw [take_succ l e he]
  conv => lhs; rw [← List.take_append_drop (i + 1) (l.take e)]
  rw [List.take_take, Nat.min_eq_left hie, take_succ l i (by omega)]
  simp only [List.append_assoc, List.singleton_append, List.cons_append, List.nil_append]

theorem pieces_l (hs : s.size ≤ 100) : ∀ (n k i f : Nat) (acc : List S45), s.size - i < n → 300 * n + 300 ≤ k → i ≤ s.size → f ≤ i → acc.length ≤ 2 * i → ∀ fl, PS ((bys s).take i) fl →
    (fl = 0 ∨ (fl = 1 ∧ (i = s.size ∨ ∃ h : i < s.data.toList.length, s.data.toList[i] = 47)) ∨ (fl = 2 ∧ i = s.size)) → PG s (spec_pieces.l0 k s acc (f : Int) (i : Int)) := by
  intro n
  induction n with
  | zero => intro k i f acc h; omega
  | succ n ih =>
    intro k i f acc hn hk hi hf ha fl hPS hfl
    obtain ⟨k, rfl⟩ : ∃ m, k = m + 1 := ⟨k - 1, by omega⟩
    rw [spec_pieces.l0]
    by_cases h : i < s.size
    · have hl : i < s.data.toList.length := by rw [size_list]; exact h
      rw [if_pos (by omega), if_pos (by omega)]
      by_cases h125 : s.data.toList[i] = 125
      · rw [if_pos ((bt125 s i h).2 h125)]
        exact PG_open s _
      · rw [if_neg (fun e => h125 ((bt125 s i h).1 e))]
        by_cases h123 : s.data.toList[i] = 123
        · rw [if_pos ((bt123 s i h).2 h123)]
          have hfl0 : fl = 0 := by
            rcases hfl with h0 | ⟨_, h1 | ⟨_, h1⟩⟩ | ⟨_, h2⟩
            · exact h0
            · omega
            · rw [h123] at h1; exact absurd h1 (by decide)
            · omega
          subst hfl0
          have main : ∀ acc2 : List S45, acc2.length ≤ 2 * i + 1 → PG s (spec_pieces.j1 k s acc2 (i : Int)) := by
            intro acc2 ha2
            obtain ⟨k, rfl⟩ : ∃ m, k = m + 1 := ⟨k - 1, by omega⟩
            rw [spec_pieces.j1, wrap_nat i (by omega)]
            refine l1_g s (by omega) acc2 i (s.size - i) k (i + 1) (by omega) (by omega) (by omega) (by omega) (by rw [drop_take_nil]; intro b hb; cases hb) ?_
            intro e k1 hie he hw hk1
            obtain ⟨k1, rfl⟩ : ∃ m, k1 = m + 2 := ⟨k1 - 2, by omega⟩
            rw [spec_pieces.j3]
            have j4t : PG s (spec_pieces.j4 (k1 + 1) s acc2 (i : Int) (e : Int) true) := by
              rw [spec_pieces.j4, if_pos rfl]
              exact PG_open s _
            by_cases hes : e = s.size
            · rw [if_pos (by omega)]
              exact j4t
            · have hlt : e < s.size := by omega
              have hel : e < s.data.toList.length := by rw [size_list]; exact hlt
              rw [if_neg (by omega), if_pos (by omega), if_pos (by omega)]
              by_cases he125 : s.data.toList[e] = 125
              · rw [if_pos ((bt125 s e hlt).2 he125)]
                by_cases hi0 : i = 0
                · rw [if_pos (by omega)]
                  exact j4t
                · have hwi : wrap64 ((i : Int) - 1) = ((i - 1 : Nat) : Int) := by rw [wrap_any _ (by omega) (by omega)]; omega
                  rw [if_neg (by omega), hwi, if_pos (by omega), if_pos (by omega)]
                  by_cases hp : s.data.toList[i - 1]'(by omega) = 47
                  · rw [if_pos ((bt47 s (i - 1) (by omega)).2 hp), wrap_nat e (by omega)]
                    have hgl : ((bys s).take i).getLast? = some 47 := by
                      rw [List.getLast?_eq_getElem?, List.length_take, size_list, Nat.min_eq_left hi, List.getElem?_take_of_lt (by omega), List.getElem?_eq_getElem (show i - 1 < s.data.toList.length by omega), hp]
                    -- the name is read, the variable's end is right
                    have fin : (e + 1 = s.size ∨ ∃ h : e + 1 < s.data.toList.length, s.data.toList[e + 1] = 47) → PG s (spec_pieces.j4 (k1 + 1) s acc2 (i : Int) (e : Int) false) := by
                      intro hend
                      rw [spec_pieces.j4, if_neg (by decide), wrap_nat i (by omega), if_pos (by omega), if_pos (by omega), if_pos (by omega)]
                      have hx : s.extract ((i + 1 : Nat) : Int).toNat ((e : Nat) : Int).toNat = mkS (((bys s).take e).drop (i + 1)) := ext_mk s (i + 1) e
                      rw [hx]
                      have hmid := take_mid (bys s) i e hie hel
                      rw [show (bys s)[i] = 123 from h123, show (bys s)[e] = 125 from he125] at hmid
                      have hnl : (((bys s).take e).drop (i + 1)).length = e - (i + 1) := by
                        rw [List.length_drop, List.length_take, size_list, Nat.min_eq_left (by omega)]
                      generalize ((bys s).take e).drop (i + 1) = nm at hw hmid hnl
                      obtain ⟨k2, rfl⟩ : ∃ m, k1 = m + 2 := ⟨k1 - 2, by omega⟩
                      have goW : ∀ z : List S45, z.length ≤ 2 * i + 2 → ∀ k', k2 ≤ k' + (e - i) → (∀ b ∈ nm, wordB b) → nm ≠ [] → PG s (spec_pieces.l0 k' s z ((e + 1 : Nat) : Int) ((e + 1 : Nat) : Int)) := by
                        intro z hz k' hk' hall hne
                        refine ih k' (e + 1) (e + 1) z (by omega) (by omega) (by omega) (Nat.le_refl _) (by omega) 1 ?_ (.inr (.inl ⟨rfl, hend⟩))
                        rw [hmid]
                        exact PS_var hPS hgl hne hall
                      have goR : ∀ z : List S45, z.length ≤ 2 * i + 2 → ∀ k', k2 ≤ k' + (e - i) → ∀ nm', nm = nm' ++ [42] → (∀ b ∈ nm', wordB b) → nm' ≠ [] → e + 1 = s.size → PG s (spec_pieces.l0 k' s z ((e + 1 : Nat) : Int) ((e + 1 : Nat) : Int)) := by
                        intro z hz k' hk' nm' hnm hall hne hes2
                        refine ih k' (e + 1) (e + 1) z (by omega) (by omega) (by omega) (Nat.le_refl _) (by omega) 2 ?_ (.inr (.inr ⟨rfl, hes2⟩))
                        rw [hmid, hnm]
                        have := PS_rest hPS hgl hne hall
                        simpa using this
                      have j6one : PG s (spec_pieces.j6 (k2 + 1) s acc2 (e : Int) (mkS nm) 1) := by
                        rw [spec_pieces.j6]
                        refine l2_g s acc2 e (mkS nm) 1 (by rw [mkS_size]; omega) (e - i) k2 0 (by rw [mkS_size]; omega) (by omega) (by omega) (by simp) ?_
                        intro hall k' hk'
                        rw [mkS_toL]
                        have hall' : ∀ b ∈ nm, wordB b := fun b hb => hall b (by show b ∈ (mkS nm).data.toList; rw [mkS_toList]; exact hb)
                        split
                        · exact PG_open s _
                        · rename_i hne
                          rw [if_neg (by decide), if_pos (by omega), wrap_nat e (by omega)]
                          exact goW _ (by simp; omega) k' hk' hall' hne
                      by_cases hn0 : nm = []
                      · rw [if_pos (by rw [mkS_toL]; exact hn0), spec_pieces.j5, if_neg (by decide)]
                        exact j6one
                      · have hnp : 0 < nm.length := List.length_pos_iff.2 hn0
                        have hwz : wrap64 (((mkS nm).size : Int) - 1) = ((nm.length - 1 : Nat) : Int) := by rw [mkS_size, wrap_any _ (by omega) (by omega)]; omega
                        rw [if_neg (by rw [mkS_toL]; exact hn0), hwz, if_pos (by omega), if_pos (by rw [mkS_size]; omega), spec_pieces.j5]
                        by_cases hb : (bt (mkS nm) ((nm.length - 1 : Nat) : Int) == 42) = true
                        · rw [if_pos hb, hwz, if_pos (by omega), if_pos (by rw [mkS_size]; omega)]
                          have h42 := (bt42 (mkS nm) (nm.length - 1) (by rw [mkS_size]; omega)).1 (by simpa using hb)
                          rw [List.getElem_of_eq (mkS_toList nm) (by rw [size_list, mkS_size]; omega)] at h42
                          have hdl : nm = nm.dropLast ++ [42] := by
                            conv => lhs; rw [← List.dropLast_concat_getLast hn0]
                            rw [List.getLast_eq_getElem, h42]
                          have hx2 : (mkS nm).extract 0 ((nm.length - 1 : Nat) : Int).toNat = mkS nm.dropLast := by
                            rw [show ((nm.length - 1 : Nat) : Int).toNat = nm.length - 1 from by simp, ext_mk, mkS_toList, List.drop_zero, List.dropLast_eq_take]
                          rw [hx2, spec_pieces.j6]
                          refine l2_g s acc2 e (mkS nm.dropLast) 2 (by rw [mkS_size, List.length_dropLast]; omega) (e - i) k2 0 (by rw [mkS_size, List.length_dropLast]; omega) (by omega) (by omega) (by simp) ?_
                          intro hall k' hk'
                          rw [mkS_toL]
                          have hall' : ∀ b ∈ nm.dropLast, wordB b := fun b hb => hall b (by show b ∈ (mkS nm.dropLast).data.toList; rw [mkS_toList]; exact hb)
                          split
                          · exact PG_open s _
                          · rename_i hne
                            rw [if_pos rfl, wrap_nat e (by omega)]
                            split
                            · exact PG_open s _
                            · rw [if_pos (by omega)]
                              exact goR _ (by simp; omega) k' hk' nm.dropLast hdl hall' hne (by omega)
                        · rw [if_neg hb]
                          exact j6one
                    by_cases he1 : e + 1 < s.size
                    · rw [if_pos (by omega), if_pos (by omega)]
                      cases hb : (bt s ((e + 1 : Nat) : Int) != 47) with
                      | true => exact j4t
                      | false =>
                        refine fin (.inr ⟨by rw [size_list]; exact he1, (bt47 s (e + 1) he1).1 (by simpa using hb)⟩)
                    · rw [if_neg (by omega)]
                      exact fin (.inl (by omega))
                  · rw [if_neg (fun x => hp ((bt47 s (i - 1) (by omega)).1 x))]
                    exact j4t
              · rw [if_neg (fun x => he125 ((bt125 s e hlt).1 x))]
                exact j4t
          by_cases hif : f < i
          · rw [if_pos (by omega), if_pos (by omega), if_pos (by omega), if_pos (by omega), if_pos (by omega)]
            exact main _ (by simp; omega)
          · rw [if_neg (by omega)]
            exact main _ (by omega)
        · rw [if_neg (fun e => h123 ((bt123 s i h).1 e)), wrap_nat i (by omega)]
          have hne2 : fl ≠ 2 := by
            rintro rfl
            rcases hfl with h0 | ⟨h0, _⟩ | ⟨_, h2⟩
            · cases h0
            · cases h0
            · omega
          refine ih k (i + 1) f acc (by omega) (by omega) (by omega) (by omega) (by omega) 0 ?_ (.inl rfl)
          rw [take_succ _ _ hl]
          by_cases h47 : s.data.toList[i] = 47
          · rw [show (bys s)[i] = 47 from h47]
            exact PS_slash hPS hne2
          · have hfl0 : fl = 0 := by
              rcases hfl with h0 | ⟨_, h1 | ⟨_, h1⟩⟩ | ⟨_, h2⟩
              · exact h0
              · omega
              · exact absurd h1 h47
              · omega
            subst hfl0
            exact PS_other hPS h47 h123 h125
    · rw [if_neg (by omega)]
      have hi2 : i = s.size := by omega
      subst hi2
      rw [List.take_of_length_le (by rw [size_list]; exact Nat.le_refl _)] at hPS
      have ok : ∀ l : List S45, PG s (some (l, 1)) := fun l => ⟨_, rfl, fun _ => ⟨fl, hPS⟩⟩
      by_cases hf2 : f < s.size
      · rw [if_pos (by omega), if_pos (by omega), if_pos (by omega), if_pos (by omega)]
        exact ok _
      · rw [if_neg (by omega)]
        exact ok _
end
theorem pieces_f (s : ByteArray) (hs : s.size ≤ 100) (k : Nat) (hk : 40000 ≤ k) : ∃ r, spec_pieces.f k s = some r ∧ (r.2 = 1 → ∃ f, PS (bys s) f) :=
  pieces_l s (by omega) (s.size + 1) k 0 0 [] (by omega) (by omega) (by omega) (by omega) (by simp) 0 PS_nil (.inl rfl)
theorem zz3_l (l : List ByteArray) (hl : l.length ≤ 2147483647) : ∀ (n k i : Nat), l.length - i < n → n ≤ k → i ≤ l.length → ∃ r, laws_zzFits3.l0 k l (l.length : Int) (i : Int) = some r ∧ (r = true → ∀ x ∈ l.drop i, x.size ≤ 2147483647) := by
  intro n
  induction n with
  | zero => intro k i h; omega
  | succ n ih =>
    intro k i hn hk hi
    obtain ⟨k, rfl⟩ : ∃ m, k = m + 1 := ⟨k - 1, by omega⟩
    unfold laws_zzFits3.l0
    by_cases h : i < l.length
    · rw [if_pos (by omega), if_pos (by omega), if_pos (by omega), show rdOf ByteArray.empty l (i : Int) = l[i] from by simp [rdOf, List.getD, h], show wrap64 ((i : Int) + 1) = ((i + 1 : Nat) : Int) from by unfold wrap64; omega]
      split
      · exact ⟨false, rfl, fun e => by cases e⟩
      · rename_i hsz
        obtain ⟨r, h1, h2⟩ := ih k (i + 1) (by omega) (by omega) (by omega)
        refine ⟨r, h1, fun e x hx => ?_⟩
        rw [List.drop_eq_getElem_cons h] at hx
        rcases List.mem_cons.1 hx with rfl | hx
        · omega
        · exact h2 e x hx
    · rw [if_neg (by omega)]
      refine ⟨true, rfl, fun _ x hx => ?_⟩
      rw [List.drop_of_length_le (by omega)] at hx
      cases hx
theorem zz3_f (l : List ByteArray) : ∃ k r, laws_zzFits3.f k l = some r ∧ (r = true → l.length ≤ 2147483647 ∧ ∀ x ∈ l, x.size ≤ 2147483647) := by
  unfold laws_zzFits3.f
  by_cases h : (l.length : Int) > 2147483647
  · exact ⟨0, false, by rw [if_pos h], fun e => by cases e⟩
  · obtain ⟨r, h1, h2⟩ := zz3_l l (by omega) (l.length + 1) (l.length + 1) 0 (by omega) (by omega) (by omega)
    exact ⟨l.length + 1, r, by rw [if_neg h]; exact h1, fun e => ⟨by omega, by simpa using h2 e⟩⟩
theorem paths_l (l : List ByteArray) (hl : l.length ≤ 2147483647) (hx : ∀ x ∈ l, x.size ≤ 2147483647) : ∀ (n k i : Nat), l.length - i < n → n + 2147483648 ≤ k → i ≤ l.length → ∃ b, laws_paths.l0 k l l (l.length : Int) (i : Int) = some b ∧ (b = true → l.length ≤ 12 ∧ ∀ x ∈ l.drop i, Plain x) := by
  intro n
  induction n with
  | zero => intro k i h; omega
  | succ n ih =>
    intro k i hn hk hi
    obtain ⟨k, rfl⟩ : ∃ m, k = m + 1 := ⟨k - 1, by omega⟩
    rw [laws_paths.l0]
    by_cases h : i < l.length
    · have hrd : rdOf ByteArray.empty l (i : Int) = l[i] := by simp [rdOf, List.getD, h]
      have hs := hx _ (List.getElem_mem h)
      rw [if_pos (by omega), if_pos (by omega), if_pos (by omega), hrd, plain_f _ hs k (by omega), Option.bind_some, show wrap64 ((i : Int) + 1) = ((i + 1 : Nat) : Int) from by unfold wrap64; omega]
      by_cases hp : Plain l[i]
      · rw [if_pos (by simpa using hp)]
        obtain ⟨b, e1, e2⟩ := ih k (i + 1) (by omega) (by omega) (by omega)
        refine ⟨b, e1, fun hb => ⟨(e2 hb).1, fun x hm => ?_⟩⟩
        rw [List.drop_eq_getElem_cons h] at hm
        rcases List.mem_cons.1 hm with rfl | hm
        · exact hp
        · exact (e2 hb).2 x hm
      · rw [if_neg (by simpa using hp)]
        exact ⟨false, rfl, fun e => by cases e⟩
    · rw [if_neg (by omega), List.drop_of_length_le (by omega)]
      exact ⟨_, rfl, fun hb => ⟨by have := of_decide_eq_true hb; omega, fun x hm => by cases hm⟩⟩
theorem paths_f (l : List ByteArray) (hl : l.length ≤ 2147483647) (hx : ∀ x ∈ l, x.size ≤ 2147483647) : ∃ k b, laws_paths.f k l = some b ∧ (b = true → l.length ≤ 12 ∧ ∀ x ∈ l, Plain x) := by
  obtain ⟨b, e1, e2⟩ := paths_l l hl hx (l.length + 1) (l.length + 2147483649) 0 (by omega) (by omega) (by omega)
  exact ⟨_, b, e1, by simpa using e2⟩
end Go.Proofs.YtpdnjgbcnnjdiaaGreatDoor
