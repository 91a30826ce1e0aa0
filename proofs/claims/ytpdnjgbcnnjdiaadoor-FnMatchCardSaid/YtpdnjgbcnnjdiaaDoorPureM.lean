/- The reference's functions on patterns as functions on lists: word, stripped, hollow, Concrete, kindOfPart, plainPath, ahead, pieces, values, Match. -/
import Derived.Test.YtpdnjgbcnnjdiaaDoorPat
import Derived.Test.YtpdnjgbcnnjdiaaDoorFixMatch
namespace Go.Proofs.YtpdnjgbcnnjdiaaDoor
open Go Go.RowKit Go.Proofs.YtpdnjgbcnnjdiaaDoorW.PrintWords Go.Proofs.YtpdnjgbcnnjdiaaDoor.PFnMatch
set_option linter.unusedVariables false
set_option linter.unusedSimpArgs false

abbrev bys (s : ByteArray) : Bs := s.data.toList
theorem wrap_any (x : Int) (h : -1000000 ≤ x) (h' : x ≤ 1000000) : wrap64 x = x := by unfold wrap64; omega
theorem bt42 (s : ByteArray) (k : Nat) (h : k < s.size) : (bt s (k : Int) = 42) ↔ s.data.toList[k]'(by rw [size_list]; exact h) = 42 := bt_eq s k h 42
theorem bt47 (s : ByteArray) (k : Nat) (h : k < s.size) : (bt s (k : Int) = 47) ↔ s.data.toList[k]'(by rw [size_list]; exact h) = 47 := bt_eq s k h 47
theorem bt123 (s : ByteArray) (k : Nat) (h : k < s.size) : (bt s (k : Int) = 123) ↔ s.data.toList[k]'(by rw [size_list]; exact h) = 123 := bt_eq s k h 123
theorem bt125 (s : ByteArray) (k : Nat) (h : k < s.size) : (bt s (k : Int) = 125) ↔ s.data.toList[k]'(by rw [size_list]; exact h) = 125 := bt_eq s k h 125
theorem take_succ (l : Bs) (i : Nat) (h : i < l.length) : l.take (i + 1) = l.take i ++ [l[i]] := by
  rw [List.take_add_one, List.getElem?_eq_getElem h]; rfl

theorem word_f (b : UInt8) : ∃ r, spec_word.f ((b.toNat : Nat) : Int) = some r ∧ (r = true ↔ wordB b) := by
  have hb : b.toNat < 256 := b.toNat_lt
  unfold spec_word.f wordB
  repeat' split
  all_goals refine ⟨_, rfl, ?_⟩
  all_goals simp only [beq_iff_eq, true_iff]
  all_goals omega

theorem stripped_f (s : ByteArray) (hs : s.size ≤ 100000) : spec_stripped.f s = some (mkS (strip1 (bys s))) := by
  unfold spec_stripped.f
  by_cases h0 : bys s = []
  · rw [if_pos (by rw [toL]; exact h0)]
    rw [strip1, h0]
    simp
    exact mkS_eq s [] h0
  · rw [if_neg (by rw [toL]; exact h0)]
    have hpos : 0 < s.size := by rw [← size_list]; exact List.length_pos_iff.2 h0
    have hw : wrap64 ((s.size : Int) - 1) = ((s.size - 1 : Nat) : Int) := by rw [wrap_any _ (by omega) (by omega)]; omega
    have hlt : s.size - 1 < s.data.toList.length := by rw [size_list]; omega
    have hlast : (bys s).getLast? = some (s.data.toList[s.size - 1]) := by
      rw [List.getLast?_eq_getElem?, size_list, List.getElem?_eq_getElem hlt]
    rw [hw, if_pos (by omega), if_pos (by omega)]
    by_cases hc : s.data.toList[s.size - 1] = 47
    · rw [if_pos ((bt47 s (s.size - 1) (by omega)).2 hc), if_pos (by omega)]
      rw [strip1, hlast, if_pos (by rw [hc]), ext_mk]
      simp
      rw [List.dropLast_eq_take, size_list]
    · rw [if_neg (fun h => hc ((bt47 s (s.size - 1) (by omega)).1 h))]
      rw [strip1, hlast, if_neg (by simpa using hc), mkS_self]

theorem hollow_l (s : ByteArray) (hs : s.size ≤ 100000) : ∀ (n k i : Nat), s.size - i < n → n ≤ k → 1 ≤ i → ∃ b, spec_hollow.l0 k s (i : Int) = some b ∧ (b = false → ∀ j (h : j < s.data.toList.length), i ≤ j → s.data.toList[j] = 47 → s.data.toList[j - 1]'(by omega) ≠ 47) := by
  intro n
  induction n with
  | zero => intro k i h; omega
  | succ n ih =>
    intro k i hn hk h1
    obtain ⟨k, rfl⟩ : ∃ m, k = m + 1 := ⟨k - 1, by omega⟩
    unfold spec_hollow.l0
    by_cases h : i < s.size
    · have hl : i < s.data.toList.length := by rw [size_list]; exact h
      have hw : wrap64 ((i : Int) - 1) = ((i - 1 : Nat) : Int) := by rw [wrap_any _ (by omega) (by omega)]; omega
      rw [if_pos (by omega), if_pos (by omega), wrap_nat i (by omega), hw]
      obtain ⟨b, e1, e2⟩ := ih k (i + 1) (by omega) (by omega) (by omega)
      have step : (s.data.toList[i] = 47 → s.data.toList[i - 1]'(by omega) ≠ 47) → ∃ b, spec_hollow.l0 k s ((i + 1 : Nat) : Int) = some b ∧ (b = false → ∀ j (h : j < s.data.toList.length), i ≤ j → s.data.toList[j] = 47 → s.data.toList[j - 1]'(by omega) ≠ 47) := fun hno =>
        ⟨b, e1, fun hb j hj hij hc => by
          rcases Nat.lt_or_ge i j with hlt | hge
          · exact e2 hb j hj hlt hc
          · have : j = i := by omega
            subst this
            exact hno hc⟩
      by_cases hc : s.data.toList[i] = 47
      · rw [if_pos ((bt47 s i h).2 hc), if_pos (by omega), if_pos (by omega)]
        by_cases hp : s.data.toList[i - 1]'(by omega) = 47
        · rw [if_pos ((bt47 s (i - 1) (by omega)).2 hp)]
          exact ⟨true, rfl, fun e => by cases e⟩
        · rw [if_neg (fun e => hp ((bt47 s (i - 1) (by omega)).1 e))]
          exact step (fun _ => hp)
      · rw [if_neg (fun e => hc ((bt47 s i h).1 e))]
        exact step (fun e => absurd e hc)
    · rw [if_neg (by omega)]
      exact ⟨false, rfl, fun _ j hj hij => by rw [size_list] at hj; omega⟩
theorem hollow_f (s : ByteArray) (hs : s.size ≤ 100000) (k : Nat) (hk : s.size < k) : ∃ b, spec_hollow.f k s = some b ∧ (b = false → ¬ [47, 47] <:+: bys s) := by
  obtain ⟨b, e1, e2⟩ := hollow_l s hs (s.size + 1) k 1 (by omega) (by omega) (by omega)
  refine ⟨b, e1, fun hb => ?_⟩
  rintro ⟨a, c, he⟩
  have hlen : (bys s).length = a.length + 2 + c.length := by rw [← he]; simp; omega
  have h1 : (bys s)[a.length + 1]? = some 47 := by rw [← he]; simp
  have h2 : (bys s)[a.length]? = some 47 := by rw [← he]; simp
  have hj : a.length + 1 < s.data.toList.length := by change a.length + 1 < (bys s).length; omega
  refine e2 hb (a.length + 1) hj (by omega) ?_ ?_
  · rw [List.getElem?_eq_getElem hj] at h1
    simpa using h1
  · have hj2 : a.length < s.data.toList.length := by omega
    rw [List.getElem?_eq_getElem hj2] at h2
    simpa using h2

theorem conc_l (s : ByteArray) (hs : s.size ≤ 100000) : ∀ (n k i : Nat), s.size - i < n → n ≤ k → i ≤ s.size → ∃ b, spec_Concrete.l0 k s (s.size : Int) (i : Int) = some b ∧ (b = true ↔ ∀ x ∈ (bys s).drop i, x ≠ 123) := by
  intro n
  induction n with
  | zero => intro k i h; omega
  | succ n ih =>
    intro k i hn hk hi
    obtain ⟨k, rfl⟩ : ∃ m, k = m + 1 := ⟨k - 1, by omega⟩
    unfold spec_Concrete.l0
    by_cases h : i < s.size
    · have hl : i < s.data.toList.length := by rw [size_list]; exact h
      rw [if_pos (by omega), if_pos (by omega), if_pos (by omega), wrap_nat i (by omega), List.drop_eq_getElem_cons hl]
      by_cases hc : s.data.toList[i] = 123
      · rw [if_pos ((bt123 s i h).2 hc)]
        exact ⟨false, rfl, by simp [hc]⟩
      · rw [if_neg (fun e => hc ((bt123 s i h).1 e))]
        obtain ⟨b, e1, e2⟩ := ih k (i + 1) (by omega) (by omega) (by omega)
        refine ⟨b, e1, e2.trans ⟨fun h x hx => ?_, fun h x hx => h x (List.mem_cons_of_mem _ hx)⟩⟩
        rcases List.mem_cons.1 hx with rfl | hx
        · exact hc
        · exact h x hx
    · rw [if_neg (by omega), List.drop_of_length_le (by rw [size_list]; omega)]
      exact ⟨true, rfl, by simp⟩
theorem conc_f (s : ByteArray) (hs : s.size ≤ 100000) (k : Nat) (hk : s.size < k) : ∃ b, spec_Concrete.f k s = some b ∧ (b = true ↔ ∀ x ∈ bys s, x ≠ 123) := by
  obtain ⟨b, e1, e2⟩ := conc_l s hs (s.size + 1) k 0 (by omega) (by omega) (by omega)
  exact ⟨b, e1, by simpa using e2⟩

/-- A part of a good pattern. -/
def PartOk (x : Bs) : Prop := Cst x ∨ Vrb x ∨ Rst x
theorem tail_part : ∀ (xs : List Bs), TailOk xs → ∀ x ∈ xs, PartOk x
  | [], _, x, hx => by cases hx
  | y :: xs, h, x, hx => by
    rcases h with ⟨hy, hok⟩ | ⟨hy, rfl⟩
    · rcases List.mem_cons.1 hx with rfl | hx
      · rcases hy with ⟨hy, _⟩ | hy
        · exact .inl hy
        · exact .inr (.inl hy)
      · exact tail_part xs hok x hx
    · rw [List.mem_singleton.1 hx]; exact .inr (.inr hy)
theorem pat_part {xs : List Bs} (h : PatOk xs) : ∀ x ∈ xs, PartOk x := by
  cases xs with
  | nil => exact h.elim
  | cons y xs =>
    intro x hx
    rcases List.mem_cons.1 hx with rfl | hx
    · exact .inl h.1
    · exact tail_part xs h.2 x hx
theorem part_len {x : Bs} (h : PartOk x) (hh : x.head? = some 123) : 3 ≤ x.length := by
  rcases h with h | ⟨nm, h0, _, rfl⟩ | ⟨nm, h0, _, rfl⟩
  · cases x with
    | nil => cases hh
    | cons a r => simp at hh; exact absurd hh (h a (by simp)).2.1
  · have := List.length_pos_iff.2 h0
    simp; omega
  · have := List.length_pos_iff.2 h0
    simp

theorem kind_f (x : Bs) (hx : PartOk x) (hl : x.length ≤ 100000) (k : Nat) (hk : 1 ≤ k) : spec_kindOfPart.f k (mkS x) = some ((kdP x : Nat) : Int) := by
  obtain ⟨k, rfl⟩ : ∃ m, k = m + 1 := ⟨k - 1, by omega⟩
  unfold spec_kindOfPart.f
  have hmt : (mkS x).data.toList = x := mkS_toList x
  cases hx0 : x with
  | nil =>
    rw [if_pos (by rw [mkS_toL])]
    rw [spec_kindOfPart.j0]
    simp [kdP]
  | cons a r =>
    rw [← hx0]
    have hne : x ≠ [] := by rw [hx0]; simp
    have hlp : 0 < x.length := List.length_pos_iff.2 hne
    rw [if_neg (by rw [mkS_toL]; exact hne), if_pos (by rw [mkS_size]; omega)]
    have hb0 : bt (mkS x) 0 = ((a.toNat : Nat) : Int) := by
      have := bt_nat (mkS x) 0 (by rw [mkS_size]; exact hlp)
      have e := (List.getElem_of_eq (hmt.trans hx0) (by rw [size_list, mkS_size]; exact hlp)).trans (show (a :: r)[0] = a from rfl)
      rw [e] at this
      exact this
    rw [hb0, spec_kindOfPart.j0]
    by_cases ha : a = 123
    · subst ha
      have h3 := part_len hx (by rw [hx0]; rfl)
      have hw : wrap64 (((mkS x).size : Int) - 2) = ((x.length - 2 : Nat) : Int) := by rw [mkS_size, wrap_any _ (by omega) (by omega)]; omega
      rw [if_neg (by decide), hw, if_pos (by omega), if_pos (by rw [mkS_size]; omega)]
      have hrev : x.reverse[1]? = some (x[x.length - 2]'(by omega)) := by
        rw [List.getElem?_reverse (by omega)]
        rw [List.getElem?_eq_getElem (by omega)]
        congr 2
      have hbt := bt42 (mkS x) (x.length - 2) (by rw [mkS_size]; omega)
      rw [List.getElem_of_eq hmt (by rw [size_list, mkS_size]; omega)] at hbt
      unfold kdP
      rw [if_neg (show ¬ (x.head? ≠ some 123) from by rw [hx0]; simp), hrev]
      by_cases h42 : x[x.length - 2]'(by omega) = 42
      · rw [if_pos (hbt.2 h42), if_pos (by rw [h42])]; rfl
      · rw [if_neg (fun e => h42 (hbt.1 e)), if_neg (by simpa using h42)]; rfl
    · have hne2 : (((a.toNat : Nat) : Int) != 123) = true := by
        rw [bne_iff_ne]
        intro e
        exact ha (UInt8.toNat_inj.1 (by show a.toNat = 123; omega))
      rw [hne2, if_pos rfl]
      unfold kdP
      rw [if_pos (by rw [hx0]; simpa using ha)]
      rfl

theorem pp_l (s : ByteArray) (hs : s.size ≤ 100000) : ∀ (n k i : Nat) (acc : Bs) (w : Bool), s.size - i < n → n ≤ k → i ≤ s.size → acc.length ≤ i → spec_plainPath.l0 k s (mkS acc) w (s.size : Int) (i : Int) = some (mkS (acc ++ ppB w ((bys s).drop i))) := by
  intro n
  induction n with
  | zero => intro k i acc w h; omega
  | succ n ih =>
    intro k i acc w hn hk hi ha
    obtain ⟨k, rfl⟩ : ∃ m, k = m + 1 := ⟨k - 1, by omega⟩
    unfold spec_plainPath.l0
    by_cases h : i < s.size
    · have hl : i < s.data.toList.length := by rw [size_list]; exact h
      have hap : ∀ z : Bs, mkS acc ++ (⟨z.toArray⟩ : ByteArray) = mkS (acc ++ z) := fun z => mkS_append acc z
      have hbx : s.extract i (i + 1) = mkS [s.data.toList[i]] := by
        rw [ext_mk, take_succ _ _ hl, List.drop_append_of_le_length (by simp; omega), drop_take_nil]
        rfl
      rw [if_pos (by omega), if_pos (by omega), if_pos (by omega), wrap_nat i (by omega), List.drop_eq_getElem_cons hl]
      have hsz : (mkS acc).size = acc.length := mkS_size acc
      by_cases h123 : s.data.toList[i] = 123
      · rw [if_pos ((bt123 s i h).2 h123), if_pos (by rw [hsz]; omega)]
        rw [show (⟨#[123]⟩ : ByteArray) = mkS [123] from rfl, mkS_append, ih k (i + 1) _ true (by omega) (by omega) (by omega) (by simp; omega)]
        rw [h123, ppB, if_pos rfl]
        simp
      · rw [if_neg (fun e => h123 ((bt123 s i h).1 e))]
        by_cases h125 : s.data.toList[i] = 125
        · rw [if_pos ((bt125 s i h).2 h125), if_pos (by rw [hsz]; omega)]
          rw [show (⟨#[125]⟩ : ByteArray) = mkS [125] from rfl, mkS_append, ih k (i + 1) _ false (by omega) (by omega) (by omega) (by simp; omega)]
          rw [h125, ppB, if_neg (by decide), if_pos rfl]
          simp
        · rw [if_neg (fun e => h125 ((bt125 s i h).1 e))]
          have happ : ∀ w, spec_plainPath.l0 k s (mkS acc ++ s.extract i (i + 1)) w (s.size : Int) ((i + 1 : Nat) : Int) = some (mkS (acc ++ s.data.toList[i] :: ppB w ((bys s).drop (i + 1)))) := fun w => by
            rw [hbx, mkS_append, ih k (i + 1) _ w (by omega) (by omega) (by omega) (by simp; omega)]
            simp
          have hcut : ∀ w, (if ((i : Nat) : Int) ≤ ((i + 1 : Nat) : Int) then (if ((i + 1 : Nat) : Int) ≤ (s.size : Int) then (if (mkS acc).size + (s.extract ((i : Nat) : Int).toNat ((i + 1 : Nat) : Int).toNat).size ≤ 9223372036854775807 then (spec_plainPath.l0 k s (mkS acc ++ (s.extract ((i : Nat) : Int).toNat ((i + 1 : Nat) : Int).toNat)) w (s.size : Int) ((i + 1 : Nat) : Int)) else none) else none) else none) = some (mkS (acc ++ s.data.toList[i] :: ppB w ((bys s).drop (i + 1)))) := fun w => by
            rw [if_pos (by omega), if_pos (by omega), if_pos ?_]
            · exact happ w
            · show (mkS acc).size + (s.extract i (i + 1)).size ≤ _
              rw [hsz, hbx, mkS_size]
              simp
              omega
          rw [ppB, if_neg h123, if_neg h125]
          cases w with
          | true =>
            rw [if_pos rfl]
            by_cases h42 : s.data.toList[i] = 42
            · rw [if_pos ((bt42 s i h).2 h42), if_pos (show (true = false ∨ s.data.toList[i] = 42) from .inr h42)]
              exact hcut true
            · rw [if_neg (fun e => h42 ((bt42 s i h).1 e)), if_neg (show ¬ (true = false ∨ s.data.toList[i] = 42) from by simp; simpa using h42)]
              exact ih k (i + 1) acc true (by omega) (by omega) (by omega) (by omega)
          | false =>
            rw [if_neg (by decide), if_pos (show (false = false ∨ s.data.toList[i] = 42) from .inl rfl)]
            exact hcut false
    · rw [if_neg (by omega), List.drop_of_length_le (by rw [size_list]; omega)]
      simp [ppB]
theorem pp_f (s : ByteArray) (hs : s.size ≤ 100000) (k : Nat) (hk : s.size < k) : spec_plainPath.f k s = some (mkS (ppB false (bys s))) := by
  have := pp_l s hs (s.size + 1) k 0 [] false (by omega) (by omega) (by omega) (by simp)
  rw [List.nil_append, List.drop_zero] at this
  exact this

theorem splitB_lenP (y : UInt8) : ∀ (l seg : Bs), (splitB y seg l).length ≤ l.length + 1 ∧ ∀ x ∈ splitB y seg l, x.length ≤ seg.length + l.length
  | [], seg => by simp [splitB]
  | c :: r, seg => by
    rw [splitB]
    split
    · obtain ⟨h1, h2⟩ := splitB_lenP y r []
      refine ⟨by simp; omega, fun x hx => ?_⟩
      rcases List.mem_cons.1 hx with rfl | hx
      · simp
      · have := h2 x hx; simp at this ⊢; omega
    · obtain ⟨h1, h2⟩ := splitB_lenP y r (seg ++ [c])
      refine ⟨by simp; omega, fun x hx => ?_⟩
      have := h2 x hx; simp at this ⊢; omega
theorem joinB_lenP (sep : Bs) (B : Nat) (l : List Bs) (h : ∀ x ∈ l, x.length ≤ B) : (joinB sep l).length ≤ l.length * (sep.length + B) := by
  cases l with
  | nil => simp [joinB]
  | cons a r =>
    have h1 : ∀ r : List Bs, (∀ x ∈ r, x.length ≤ B) → (r.flatMap fun x => sep ++ x).length ≤ r.length * (sep.length + B) := by
      intro r
      induction r with
      | nil => intro _; simp
      | cons b r ih =>
        intro hr
        have := ih fun x hx => hr x (List.mem_cons_of_mem _ hx)
        have hb := hr b (List.mem_cons_self ..)
        rw [List.flatMap_cons, List.length_append, List.length_append, List.length_cons, Nat.add_mul, Nat.one_mul]
        omega
    have h2 := h1 r fun x hx => h x (List.mem_cons_of_mem _ hx)
    have ha := h a (List.mem_cons_self ..)
    rw [joinB, List.length_append, List.length_cons, Nat.add_mul, Nat.one_mul]
    omega

theorem strip1_len (s : Bs) : (strip1 s).length ≤ s.length := by
  unfold strip1
  split
  · simp
  · exact Nat.le_refl _
theorem parts_f (s : ByteArray) (hs : s.size ≤ 100000) (k : Nat) (hk : s.size < k) : spec_parted.f k (mkS (strip1 (bys s))) 47 = some ((partsOf (bys s)).map mkS) := by
  have hl := strip1_len (bys s)
  rw [size_list] at hl
  have := parted_f (mkS (strip1 (bys s))) 47 (by rw [mkS_size]; omega) k (by rw [mkS_size]; omega)
  rw [mkS_toList] at this
  exact this
theorem parts_len (s : ByteArray) (hs : s.size ≤ 100000) : (partsOf (bys s)).length ≤ s.size + 1 ∧ ∀ x ∈ partsOf (bys s), x.length ≤ s.size := by
  have hl := strip1_len (bys s)
  rw [size_list] at hl
  obtain ⟨h1, h2⟩ := splitB_lenP 47 (strip1 (bys s)) []
  refine ⟨by unfold partsOf; omega, fun x hx => ?_⟩
  have := h2 x hx
  simp at this
  omega

theorem ahead_l (xs ys : List Bs) (hx : ∀ x ∈ xs, PartOk x ∧ x.length ≤ 100000) (hy : ∀ x ∈ ys, PartOk x ∧ x.length ≤ 100000) (hlx : xs.length ≤ 200000) (hly : ys.length ≤ 200000) : ∀ (n k i : Nat), xs.length - i < n → 2 * n + 2 ≤ k → i ≤ xs.length → spec_ahead.l0 k (xs.map mkS) (ys.map mkS) (i : Int) = some (ahd (xs.drop i) (ys.drop i)) := by
  intro n
  induction n with
  | zero => intro k i h; omega
  | succ n ih =>
    intro k i hn hk hi
    obtain ⟨k, rfl⟩ : ∃ m, k = m + 2 := ⟨k - 2, by omega⟩
    unfold spec_ahead.l0
    rw [List.length_map, List.length_map]
    by_cases h : i < xs.length
    · rw [if_pos (by omega)]
      unfold spec_ahead.j1
      by_cases h2 : i < ys.length
      · rw [decide_eq_true (show ((i : Nat) : Int) < (ys.length : Int) by omega), if_pos rfl, if_pos (by omega), List.length_map, if_pos (by omega), rdOf_mk xs i h, kind_f _ (hx _ (List.getElem_mem h)).1 (hx _ (List.getElem_mem h)).2 k (by omega)]
        rw [Option.bind_some, List.length_map, if_pos (by omega), rdOf_mk ys i h2, kind_f _ (hy _ (List.getElem_mem h2)).1 (hy _ (List.getElem_mem h2)).2 k (by omega), Option.bind_some, wrap_nat i (by omega)]
        rw [List.drop_eq_getElem_cons h, List.drop_eq_getElem_cons h2, ahd]
        by_cases hk : kdP xs[i] = kdP ys[i]
        · rw [if_pos (by rw [hk]), if_neg (by simpa using hk)]
          exact ih k (i + 1) (by omega) (by omega) (by omega)
        · rw [if_neg (by intro e; exact hk (by omega)), if_pos (by simpa using hk)]
          congr 1
          rw [decide_eq_decide]
          omega
      · rw [decide_eq_false (show ¬ ((i : Nat) : Int) < (ys.length : Int) by omega), if_neg (by decide)]
        rw [List.drop_of_length_le (l := ys) (by omega)]
        cases xs.drop i <;> rfl
    · rw [if_neg (by omega)]
      unfold spec_ahead.j1
      rw [if_neg (by decide), List.drop_of_length_le (l := xs) (by omega)]
      rfl
theorem ahead_f (s t : ByteArray) (hs : s.size ≤ 1000) (ht : t.size ≤ 1000) (ps : PatOk (partsOf (bys s))) (pt : PatOk (partsOf (bys t))) (k : Nat) (hk : 5000 ≤ k) : spec_ahead.f k s t = some (ahd (partsOf (bys s)) (partsOf (bys t))) := by
  unfold spec_ahead.f
  rw [stripped_f s (by omega), Option.bind_some, parts_f s (by omega) k (by omega), Option.bind_some, stripped_f t (by omega), Option.bind_some, parts_f t (by omega) k (by omega), Option.bind_some]
  obtain ⟨l1, l2⟩ := parts_len s (by omega)
  obtain ⟨m1, m2⟩ := parts_len t (by omega)
  have := ahead_l (partsOf (bys s)) (partsOf (bys t)) (fun x hx => ⟨pat_part ps x hx, by have := l2 x hx; omega⟩) (fun x hx => ⟨pat_part pt x hx, by have := m2 x hx; omega⟩) (by omega) (by omega) ((partsOf (bys s)).length + 1) k 0 (by omega) (by omega) (by omega)
  simpa using this


section
variable (s : ByteArray)
def PG (o : Option (List S71 × Int)) : Prop := ∃ r, o = some r ∧ (r.2 = 1 → ∃ f, PS (bys s) f)
theorem PG_open (l : List S71) : PG s (some (l, 2)) := ⟨_, rfl, fun h => absurd h (by show ¬ (2 : Int) = 1; decide)⟩

theorem l2_g (acc : List S71) (e : Nat) (nm : ByteArray) (kind : Int) (hnm : nm.size ≤ 100000) : ∀ (n k j : Nat), nm.size - j < n → n ≤ k → j ≤ nm.size → (∀ b ∈ (bys nm).take j, wordB b) →
    ((∀ b ∈ bys nm, wordB b) → ∀ k', k ≤ k' + n → PG s (if nm.toList = ([] : List UInt8) then (some (([] : List S71), 2)) else (if kind = 2 then (if (wrap64 ((e : Int) + 1)) < (s.size : Int) then (some (([] : List S71), 2)) else (if acc.length < 5864062014805 then (spec_pieces.l0 k' s (acc ++ [(⟨nm, kind⟩ : S71)]) (wrap64 ((e : Int) + 1)) (wrap64 ((e : Int) + 1))) else (none))) else (if acc.length < 5864062014805 then (spec_pieces.l0 k' s (acc ++ [(⟨nm, kind⟩ : S71)]) (wrap64 ((e : Int) + 1)) (wrap64 ((e : Int) + 1))) else (none))))) →
    PG s (spec_pieces.l2 k s acc (e : Int) nm kind (nm.size : Int) (j : Int)) := by
  intro n
  induction n with
  | zero => intro k j h; omega
  | succ n ih =>
    intro k j hn hk hj hw hc
    obtain ⟨k, rfl⟩ : ∃ m, k = m + 1 := ⟨k - 1, by omega⟩
    rw [spec_pieces.l2]
    by_cases h : j < nm.size
    · have hl : j < nm.data.toList.length := by rw [size_list]; exact h
      obtain ⟨r, hr, hrw⟩ := word_f nm.data.toList[j]
      rw [if_pos (by omega), if_pos (by omega), if_pos (by omega), bt_nat nm j h, hr, Option.bind_some, wrap_nat j (by omega)]
      cases r with
      | true =>
        rw [if_pos rfl]
        refine ih k (j + 1) (by omega) (by omega) (by omega) ?_ (fun hall k' hk' => hc hall k' (by omega))
        intro b hb
        rw [take_succ _ _ hl] at hb
        rcases List.mem_append.1 hb with hb | hb
        · exact hw b hb
        · rw [List.mem_singleton.1 hb]; exact hrw.1 rfl
      | false =>
        rw [if_neg (by decide)]
        exact PG_open s _
    · rw [if_neg (by omega)]
      have hj2 : j = nm.size := by omega
      subst hj2
      rw [List.take_of_length_le (by rw [size_list]; exact Nat.le_refl _)] at hw
      exact hc hw k (by omega)

theorem l1_g (hs : s.size ≤ 100000) (acc : List S71) (i : Nat) : ∀ (n k e : Nat), s.size - e < n → n ≤ k → i + 1 ≤ e → e ≤ s.size → (∀ b ∈ ((bys s).take e).drop (i + 1), wordB b ∨ b = 42) →
    (∀ e k', i + 1 ≤ e → e ≤ s.size → (∀ b ∈ ((bys s).take e).drop (i + 1), wordB b ∨ b = 42) → k ≤ k' + n → PG s (spec_pieces.j3 k' s acc (i : Int) (e : Int))) →
    PG s (spec_pieces.l1 k s acc (i : Int) (e : Int)) := by
  intro n
  induction n with
  | zero => intro k e h; omega
  | succ n ih =>
    intro k e hn hk hie he hw hc
    obtain ⟨k, rfl⟩ : ∃ m, k = m + 1 := ⟨k - 1, by omega⟩
    rw [spec_pieces.l1]
    by_cases h : e < s.size
    · have hl : e < s.data.toList.length := by rw [size_list]; exact h
      obtain ⟨r, hr, hrw⟩ := word_f s.data.toList[e]
      rw [if_pos (by omega), if_pos (by omega), bt_nat s e h, hr, Option.bind_some, wrap_nat e (by omega)]
      have hnext : (wordB s.data.toList[e] ∨ s.data.toList[e] = 42) → PG s (spec_pieces.l1 k s acc (i : Int) ((e + 1 : Nat) : Int)) := fun hb => by
        refine ih k (e + 1) (by omega) (by omega) (by omega) (by omega) ?_ (fun e' k' h1 h2 h3 h4 => hc e' k' h1 h2 h3 (by omega))
        intro b hm
        rw [take_succ _ _ hl, List.drop_append_of_le_length (by rw [List.length_take]; omega)] at hm
        rcases List.mem_append.1 hm with hm | hm
        · exact hw b hm
        · rw [List.mem_singleton.1 hm]; exact hb
      cases r with
      | true =>
        rw [if_pos rfl]
        exact hnext (.inl (hrw.1 rfl))
      | false =>
        rw [if_neg (by decide), ← bt_nat s e h]
        by_cases h42 : s.data.toList[e] = 42
        · rw [if_pos ((bt42 s e h).2 h42)]
          exact hnext (.inr h42)
        · rw [if_neg (fun x => h42 ((bt42 s e h).1 x))]
          exact hc e k hie he hw (by omega)
    · rw [if_neg (by omega)]
      exact hc e k hie he hw (by omega)

theorem take_mid (l : Bs) (i e : Nat) (hie : i + 1 ≤ e) (he : e < l.length) : l.take (e + 1) = l.take i ++ l[i] :: ((l.take e).drop (i + 1) ++ [l[e]]) := by
  rw [take_succ l e he]
  conv => lhs; rw [← List.take_append_drop (i + 1) (l.take e)]
  rw [List.take_take, Nat.min_eq_left hie, take_succ l i (by omega)]
  simp only [List.append_assoc, List.singleton_append, List.cons_append, List.nil_append]

theorem pieces_l (hs : s.size ≤ 100) : ∀ (n k i f : Nat) (acc : List S71), s.size - i < n → 300 * n + 300 ≤ k → i ≤ s.size → f ≤ i → acc.length ≤ 2 * i → ∀ fl, PS ((bys s).take i) fl →
    (fl = 0 ∨ (fl = 1 ∧ (i = s.size ∨ ∃ h : i < s.data.toList.length, s.data.toList[i] = 47)) ∨ (fl = 2 ∧ i = s.size)) → PG s (spec_pieces.l0 k s acc (f : Int) (i : Int)) := by
  intro n
  induction n with
  | zero => intro k i f acc h; omega
  | succ n ih =>
    intro k i f acc hn hk hi hf ha fl hPS hfl
    obtain ⟨k, rfl⟩ : ∃ m, k = m + 1 := ⟨k - 1, by omega⟩
    rw [spec_pieces.l0]
    by_cases h : i < s.size
    · have hl : i < s.data.toList.length := by rw [size_list]; exact h
      rw [if_pos (by omega), if_pos (by omega)]
      by_cases h125 : s.data.toList[i] = 125
      · rw [if_pos ((bt125 s i h).2 h125)]
        exact PG_open s _
      · rw [if_neg (fun e => h125 ((bt125 s i h).1 e))]
        by_cases h123 : s.data.toList[i] = 123
        · rw [if_pos ((bt123 s i h).2 h123)]
          have hfl0 : fl = 0 := by
            rcases hfl with h0 | ⟨_, h1 | ⟨_, h1⟩⟩ | ⟨_, h2⟩
            · exact h0
            · omega
            · rw [h123] at h1; exact absurd h1 (by decide)
            · omega
          subst hfl0
          have main : ∀ acc2 : List S71, acc2.length ≤ 2 * i + 1 → PG s (spec_pieces.j1 k s acc2 (i : Int)) := by
            intro acc2 ha2
            obtain ⟨k, rfl⟩ : ∃ m, k = m + 1 := ⟨k - 1, by omega⟩
            rw [spec_pieces.j1, wrap_nat i (by omega)]
            refine l1_g s (by omega) acc2 i (s.size - i) k (i + 1) (by omega) (by omega) (by omega) (by omega) (by rw [drop_take_nil]; intro b hb; cases hb) ?_
            intro e k1 hie he hw hk1
            obtain ⟨k1, rfl⟩ : ∃ m, k1 = m + 2 := ⟨k1 - 2, by omega⟩
            rw [spec_pieces.j3]
            have j4t : PG s (spec_pieces.j4 (k1 + 1) s acc2 (i : Int) (e : Int) true) := by
              rw [spec_pieces.j4, if_pos rfl]
              exact PG_open s _
            by_cases hes : e = s.size
            · rw [if_pos (by omega)]
              exact j4t
            · have hlt : e < s.size := by omega
              have hel : e < s.data.toList.length := by rw [size_list]; exact hlt
              rw [if_neg (by omega), if_pos (by omega), if_pos (by omega)]
              by_cases he125 : s.data.toList[e] = 125
              · rw [if_pos ((bt125 s e hlt).2 he125)]
                by_cases hi0 : i = 0
                · rw [if_pos (by omega)]
                  exact j4t
                · have hwi : wrap64 ((i : Int) - 1) = ((i - 1 : Nat) : Int) := by rw [wrap_any _ (by omega) (by omega)]; omega
                  rw [if_neg (by omega), hwi, if_pos (by omega), if_pos (by omega)]
                  by_cases hp : s.data.toList[i - 1]'(by omega) = 47
                  · rw [if_pos ((bt47 s (i - 1) (by omega)).2 hp), wrap_nat e (by omega)]
                    have hgl : ((bys s).take i).getLast? = some 47 := by
                      rw [List.getLast?_eq_getElem?, List.length_take, size_list, Nat.min_eq_left hi, List.getElem?_take_of_lt (by omega), List.getElem?_eq_getElem (show i - 1 < s.data.toList.length by omega), hp]
                    -- the name is read, the variable's end is right
                    have fin : (e + 1 = s.size ∨ ∃ h : e + 1 < s.data.toList.length, s.data.toList[e + 1] = 47) → PG s (spec_pieces.j4 (k1 + 1) s acc2 (i : Int) (e : Int) false) := by
                      intro hend
                      rw [spec_pieces.j4, if_neg (by decide), wrap_nat i (by omega), if_pos (by omega), if_pos (by omega), if_pos (by omega)]
                      have hx : s.extract ((i + 1 : Nat) : Int).toNat ((e : Nat) : Int).toNat = mkS (((bys s).take e).drop (i + 1)) := ext_mk s (i + 1) e
                      rw [hx]
                      have hmid := take_mid (bys s) i e hie hel
                      rw [show (bys s)[i] = 123 from h123, show (bys s)[e] = 125 from he125] at hmid
                      have hnl : (((bys s).take e).drop (i + 1)).length = e - (i + 1) := by
                        rw [List.length_drop, List.length_take, size_list, Nat.min_eq_left (by omega)]
                      generalize ((bys s).take e).drop (i + 1) = nm at hw hmid hnl
                      obtain ⟨k2, rfl⟩ : ∃ m, k1 = m + 2 := ⟨k1 - 2, by omega⟩
                      have goW : ∀ z : List S71, z.length ≤ 2 * i + 2 → ∀ k', k2 ≤ k' + (e - i) → (∀ b ∈ nm, wordB b) → nm ≠ [] → PG s (spec_pieces.l0 k' s z ((e + 1 : Nat) : Int) ((e + 1 : Nat) : Int)) := by
                        intro z hz k' hk' hall hne
                        refine ih k' (e + 1) (e + 1) z (by omega) (by omega) (by omega) (Nat.le_refl _) (by omega) 1 ?_ (.inr (.inl ⟨rfl, hend⟩))
                        rw [hmid]
                        exact PS_var hPS hgl hne hall
                      have goR : ∀ z : List S71, z.length ≤ 2 * i + 2 → ∀ k', k2 ≤ k' + (e - i) → ∀ nm', nm = nm' ++ [42] → (∀ b ∈ nm', wordB b) → nm' ≠ [] → e + 1 = s.size → PG s (spec_pieces.l0 k' s z ((e + 1 : Nat) : Int) ((e + 1 : Nat) : Int)) := by
                        intro z hz k' hk' nm' hnm hall hne hes2
                        refine ih k' (e + 1) (e + 1) z (by omega) (by omega) (by omega) (Nat.le_refl _) (by omega) 2 ?_ (.inr (.inr ⟨rfl, hes2⟩))
                        rw [hmid, hnm]
                        have := PS_rest hPS hgl hne hall
                        simpa using this
                      have j6one : PG s (spec_pieces.j6 (k2 + 1) s acc2 (e : Int) (mkS nm) 1) := by
                        rw [spec_pieces.j6]
                        refine l2_g s acc2 e (mkS nm) 1 (by rw [mkS_size]; omega) (e - i) k2 0 (by rw [mkS_size]; omega) (by omega) (by omega) (by simp) ?_
                        intro hall k' hk'
                        rw [mkS_toL]
                        have hall' : ∀ b ∈ nm, wordB b := fun b hb => hall b (by show b ∈ (mkS nm).data.toList; rw [mkS_toList]; exact hb)
                        split
                        · exact PG_open s _
                        · rename_i hne
                          rw [if_neg (by decide), if_pos (by omega), wrap_nat e (by omega)]
                          exact goW _ (by simp; omega) k' hk' hall' hne
                      by_cases hn0 : nm = []
                      · rw [if_pos (by rw [mkS_toL]; exact hn0), spec_pieces.j5, if_neg (by decide)]
                        exact j6one
                      · have hnp : 0 < nm.length := List.length_pos_iff.2 hn0
                        have hwz : wrap64 (((mkS nm).size : Int) - 1) = ((nm.length - 1 : Nat) : Int) := by rw [mkS_size, wrap_any _ (by omega) (by omega)]; omega
                        rw [if_neg (by rw [mkS_toL]; exact hn0), hwz, if_pos (by omega), if_pos (by rw [mkS_size]; omega), spec_pieces.j5]
                        by_cases hb : (bt (mkS nm) ((nm.length - 1 : Nat) : Int) == 42) = true
                        · rw [if_pos hb, hwz, if_pos (by omega), if_pos (by rw [mkS_size]; omega)]
                          have h42 := (bt42 (mkS nm) (nm.length - 1) (by rw [mkS_size]; omega)).1 (by simpa using hb)
                          rw [List.getElem_of_eq (mkS_toList nm) (by rw [size_list, mkS_size]; omega)] at h42
                          have hdl : nm = nm.dropLast ++ [42] := by
                            conv => lhs; rw [← List.dropLast_concat_getLast hn0]
                            rw [List.getLast_eq_getElem, h42]
                          have hx2 : (mkS nm).extract 0 ((nm.length - 1 : Nat) : Int).toNat = mkS nm.dropLast := by
                            rw [show ((nm.length - 1 : Nat) : Int).toNat = nm.length - 1 from by simp, ext_mk, mkS_toList, List.drop_zero, List.dropLast_eq_take]
                          rw [hx2, spec_pieces.j6]
                          refine l2_g s acc2 e (mkS nm.dropLast) 2 (by rw [mkS_size, List.length_dropLast]; omega) (e - i) k2 0 (by rw [mkS_size, List.length_dropLast]; omega) (by omega) (by omega) (by simp) ?_
                          intro hall k' hk'
                          rw [mkS_toL]
                          have hall' : ∀ b ∈ nm.dropLast, wordB b := fun b hb => hall b (by show b ∈ (mkS nm.dropLast).data.toList; rw [mkS_toList]; exact hb)
                          split
                          · exact PG_open s _
                          · rename_i hne
                            rw [if_pos rfl, wrap_nat e (by omega)]
                            split
                            · exact PG_open s _
                            · rw [if_pos (by omega)]
                              exact goR _ (by simp; omega) k' hk' nm.dropLast hdl hall' hne (by omega)
                        · rw [if_neg hb]
                          exact j6one
                    by_cases he1 : e + 1 < s.size
                    · rw [if_pos (by omega), if_pos (by omega)]
                      cases hb : (bt s ((e + 1 : Nat) : Int) != 47) with
                      | true => exact j4t
                      | false =>
                        refine fin (.inr ⟨by rw [size_list]; exact he1, (bt47 s (e + 1) he1).1 (by simpa using hb)⟩)
                    · rw [if_neg (by omega)]
                      exact fin (.inl (by omega))
                  · rw [if_neg (fun x => hp ((bt47 s (i - 1) (by omega)).1 x))]
                    exact j4t
              · rw [if_neg (fun x => he125 ((bt125 s e hlt).1 x))]
                exact j4t
          by_cases hif : f < i
          · rw [if_pos (by omega), if_pos (by omega), if_pos (by omega), if_pos (by omega), if_pos (by omega)]
            exact main _ (by simp; omega)
          · rw [if_neg (by omega)]
            exact main _ (by omega)
        · rw [if_neg (fun e => h123 ((bt123 s i h).1 e)), wrap_nat i (by omega)]
          have hne2 : fl ≠ 2 := by
            rintro rfl
            rcases hfl with h0 | ⟨h0, _⟩ | ⟨_, h2⟩
            · cases h0
            · cases h0
            · omega
          refine ih k (i + 1) f acc (by omega) (by omega) (by omega) (by omega) (by omega) 0 ?_ (.inl rfl)
          rw [take_succ _ _ hl]
          by_cases h47 : s.data.toList[i] = 47
          · rw [show (bys s)[i] = 47 from h47]
            exact PS_slash hPS hne2
          · have hfl0 : fl = 0 := by
              rcases hfl with h0 | ⟨_, h1 | ⟨_, h1⟩⟩ | ⟨_, h2⟩
              · exact h0
              · omega
              · exact absurd h1 h47
              · omega
            subst hfl0
            exact PS_other hPS h47 h123 h125
    · rw [if_neg (by omega)]
      have hi2 : i = s.size := by omega
      subst hi2
      rw [List.take_of_length_le (by rw [size_list]; exact Nat.le_refl _)] at hPS
      have ok : ∀ l : List S71, PG s (some (l, 1)) := fun l => ⟨_, rfl, fun _ => ⟨fl, hPS⟩⟩
      by_cases hf2 : f < s.size
      · rw [if_pos (by omega), if_pos (by omega), if_pos (by omega), if_pos (by omega)]
        exact ok _
      · rw [if_neg (by omega)]
        exact ok _
end
theorem pieces_f (s : ByteArray) (hs : s.size ≤ 100) (k : Nat) (hk : 40000 ≤ k) : ∃ r, spec_pieces.f k s = some r ∧ (r.2 = 1 → ∃ f, PS (bys s) f) :=
  pieces_l s (by omega) (s.size + 1) k 0 0 [] (by omega) (by omega) (by omega) (by omega) (by simp) 0 PS_nil (.inl rfl)


def VR (r : List ByteArray × Bool × Int) (v : List Bs × Bool × Bool) : Prop := r.2.2 = (if v.2.2 = true then 1 else 2) ∧ (v.2.2 = true → r.2.1 = v.2.1 ∧ (v.2.1 = true → r.1 = v.1.map mkS))

theorem vl1 (ys : List Bs) (hy : ∀ y ∈ ys, PartOk y ∧ y.length ≤ 100000) (hl : ys.length ≤ 100000) : ∀ (n k j : Nat) (out : List Bs), ys.length - j < n → n + 1 ≤ k → j ≤ ys.length → out.length ≤ 200000 + j →
    spec_values.l1 k (out.map mkS) (ys.map mkS) (ys.length : Int) (j : Int) = some (if ∀ y ∈ ys.drop j, kdP y = 1 then ((out ++ (ys.drop j).map (fun _ => [])).map mkS, true, 1) else ([], false, 2)) := by
  intro n
  induction n with
  | zero => intro k j out h; omega
  | succ n ih =>
    intro k j out hn hk hj ho
    obtain ⟨k, rfl⟩ : ∃ m, k = m + 1 := ⟨k - 1, by omega⟩
    rw [spec_values.l1]
    by_cases h : j < ys.length
    · have hp := hy _ (List.getElem_mem h)
      rw [if_pos (by omega), if_pos (by omega), if_pos (by rw [List.length_map]; omega), rdOf_mk ys j h, kind_f _ hp.1 hp.2 k (by omega), Option.bind_some, List.drop_eq_getElem_cons h]
      by_cases h1 : kdP ys[j] = 1
      · rw [if_pos (by rw [h1]; rfl), if_pos (by rw [List.length_map]; omega), wrap_nat j (by omega)]
        have e : out.map mkS ++ [(⟨#[]⟩ : ByteArray)] = (out ++ [[]]).map mkS := by rw [List.map_append]; rfl
        rw [e, ih k (j + 1) (out ++ [[]]) (by omega) (by omega) (by omega) (by simp; omega)]
        by_cases hall : ∀ y ∈ ys.drop (j + 1), kdP y = 1
        · rw [if_pos hall, if_pos (by
            intro y hy
            rcases List.mem_cons.1 hy with rfl | hy
            · exact h1
            · exact hall y hy), List.map_cons, List.append_assoc, List.singleton_append]
        · rw [if_neg hall, if_neg (fun h => hall (fun y hy => h y (List.mem_cons_of_mem _ hy)))]
      · rw [if_neg (by intro e; exact h1 (by omega)), if_neg (fun h => h1 (h _ (List.mem_cons_self ..)))]
    · rw [if_neg (by omega), List.drop_of_length_le (by omega), if_pos (by simp)]
      simp

theorem values_l (xs ps : List Bs) (hx : ∀ x ∈ xs, PartOk x ∧ x.length ≤ 1000) (hp : ∀ p ∈ ps, p.length ≤ 500) (hlx : xs.length ≤ 1000) (hlp : ps.length ≤ 1000) : ∀ (n k i : Nat) (out : List Bs), xs.length - i < n → 10 * n + 3000 ≤ k → i ≤ xs.length → i ≤ ps.length → out.length ≤ i →
    ∃ r, spec_values.l0 k (xs.map mkS) (ps.map mkS) (out.map mkS) (xs.map mkS) (xs.length : Int) (i : Int) = some r ∧ VR r (valP (xs.drop i) (ps.drop i) out) := by
  intro n
  induction n with
  | zero => intro k i out h; omega
  | succ n ih =>
    intro k i out hn hk hi hip ho
    obtain ⟨k, rfl⟩ : ∃ m, k = m + 3 := ⟨k - 3, by omega⟩
    rw [spec_values.l0]
    by_cases h : i < xs.length
    · have hpx := hx _ (List.getElem_mem h)
      rw [if_pos (by omega), if_pos (by omega), if_pos (by rw [List.length_map]; omega), rdOf_mk xs i h, kind_f _ hpx.1 (by omega) (k + 2) (by omega), Option.bind_some, List.drop_eq_getElem_cons h]
      by_cases h2 : kdP xs[i] = 2
      · have hmn : mn ((i : Nat) : Int) ((ps.map mkS).length : Int) = ((i : Nat) : Int) := by
          rw [List.length_map]
          unfold mn
          split <;> omega
        rw [if_pos (by rw [h2]; rfl), hmn, if_pos (by omega), if_pos (by rw [List.length_map]; omega)]
        have hd : (ps.map mkS).drop ((i : Nat) : Int).toNat = (ps.drop i).map mkS := by
          rw [show ((i : Nat) : Int).toNat = i from by simp, List.map_drop]
        have hpl : ∀ p ∈ ps.drop i, p.length ≤ 500 := fun p hp' => hp p (List.mem_of_mem_drop hp')
        have hjl := joinB_lenP [47] 500 (ps.drop i) hpl
        have hdl : (ps.drop i).length ≤ 1000 := by rw [List.length_drop]; omega
        have hb : (joinB [47] (ps.drop i)).length ≤ 1000000 := by
          have : (ps.drop i).length * ([47] : Bs).length.succ ≤ 100000000 := by simp; omega
          simp only [List.length_singleton] at hjl
          omega
        rw [hd, show (⟨#[47]⟩ : ByteArray) = mkS [47] from rfl, joinTexts_f [47] (ps.drop i) (by omega) hb (k + 2) (by omega), Option.bind_some, if_pos (by rw [List.length_map]; omega)]
        refine ⟨_, rfl, ?_⟩
        rw [valP_r h2]
        refine ⟨rfl, fun _ => ⟨?_, fun _ => by simp⟩⟩
        show decide _ = true
        rw [decide_eq_true_eq, List.length_map]
        omega
      · rw [if_neg (by intro e; exact h2 (by omega))]
        by_cases hge : i < ps.length
        · rw [if_neg (by rw [List.length_map]; omega), List.drop_eq_getElem_cons hge, valP_c h2]
          have hgo : ∀ (out' : List Bs), out'.length ≤ i + 1 → ∀ k', k' + 3 ≥ k + 1 → k' ≤ k → ∃ r, spec_values.l0 k' (xs.map mkS) (ps.map mkS) (out'.map mkS) (xs.map mkS) (xs.length : Int) ((i + 1 : Nat) : Int) = some r ∧ VR r (valP (xs.drop (i + 1)) (ps.drop (i + 1)) out') := fun out' ho' k' h1 h2 =>
            ih k' (i + 1) out' (by omega) (by omega) (by omega) (by omega) ho'
          by_cases h0 : kdP xs[i] = 0
          · rw [if_pos (by rw [h0]; rfl), if_pos (by rw [List.length_map]; omega), rdOf_mk ps i hge, if_pos h0, spec_values.j2, mkS_toL, mkS_toL]
            by_cases he : xs[i] = ps[i]
            · rw [if_neg (by simp [he]), if_neg (by rw [h0]; decide), if_pos he, spec_values.j3, if_neg (by decide), if_neg (by rw [h0]; decide), wrap_nat i (by omega)]
              exact hgo out (by omega) k (by omega) (by omega)
            · rw [if_pos (by simpa using he), if_neg he]
              exact ⟨_, rfl, rfl, fun _ => ⟨rfl, fun e => by cases e⟩⟩
          · have h1 : kdP xs[i] = 1 := by have := kd_le xs[i]; omega
            rw [if_neg (by intro e; exact h0 (by omega)), if_neg h0, spec_values.j2, if_neg (by decide), if_pos (by rw [h1]; rfl), if_pos (by omega), if_pos (by rw [List.length_map]; omega), rdOf_mk ps i hge, spec_values.j3, mkS_toL]
            by_cases hq : ps[i] = []
            · rw [if_pos (by simp [hq]), if_pos hq]
              exact ⟨_, rfl, rfl, fun e => by cases e⟩
            · rw [if_neg (by simpa using hq), if_neg hq, if_pos (by rw [h1]; rfl), if_pos (by omega), if_pos (by rw [List.length_map]; omega), if_pos (by rw [List.length_map]; omega), rdOf_mk ps i hge, wrap_nat i (by omega)]
              have e : out.map mkS ++ [mkS ps[i]] = (out ++ [ps[i]]).map mkS := by simp
              rw [e]
              exact hgo (out ++ [ps[i]]) (by simp; omega) k (by omega) (by omega)
        · have hip2 : i = ps.length := by omega
          rw [if_pos (by rw [List.length_map]; omega), List.drop_of_length_le (l := ps) (by omega), valP_e h2]
          by_cases h1 : kdP xs[i] = 1
          · rw [if_pos (by rw [h1]; rfl), if_pos (by rw [List.length_map]; omega), Option.bind_some]
            have hd : (xs.map mkS).drop ((i : Nat) : Int).toNat = (xs.drop i).map mkS := by
              rw [show ((i : Nat) : Int).toNat = i from by simp, List.map_drop]
            rw [hd, List.length_map]
            have hv := vl1 (xs.drop i) (fun y hy => ⟨(hx y (List.mem_of_mem_drop hy)).1, by have := (hx y (List.mem_of_mem_drop hy)).2; omega⟩) (by rw [List.length_drop]; omega) ((xs.drop i).length + 1) (k + 2) 0 out (by omega) (by rw [List.length_drop]; omega) (by omega) (by omega)
            rw [List.drop_zero] at hv
            refine ⟨_, hv, ?_⟩
            rw [if_neg (show ¬ (kdP xs[i] ≠ 1) from fun h => h h1), ← List.drop_eq_getElem_cons h]
            by_cases hall : ∀ y ∈ xs.drop i, kdP y = 1
            · rw [if_pos hall, if_pos hall]
              exact ⟨rfl, fun _ => ⟨rfl, fun _ => rfl⟩⟩
            · rw [if_neg hall, if_neg hall]
              exact ⟨rfl, fun e => by cases e⟩
          · rw [if_neg (by intro e; exact h1 (by omega)), if_pos h1]
            exact ⟨_, rfl, rfl, fun _ => ⟨rfl, fun e => by cases e⟩⟩
    · rw [if_neg (by omega), List.drop_of_length_le (l := xs) (by omega)]
      refine ⟨_, rfl, rfl, fun _ => ⟨?_, fun _ => rfl⟩⟩
      show (((ps.map mkS).length : Int) == ((xs.map mkS).length : Int)) = decide (ps.drop i = [])
      rw [List.length_map, List.length_map, Bool.eq_iff_iff, beq_iff_eq, decide_eq_true_eq, List.drop_eq_nil_iff]
      omega

theorem values_f (s t : ByteArray) (hs : s.size ≤ 100) (ht : t.size ≤ 100) (hp : PatOk (partsOf (bys s))) (k : Nat) (hk : 10000 ≤ k) : ∃ r, spec_values.f k s t = some r ∧ VR r (valP (partsOf (bys s)) (partsOf (bys t)) []) := by
  unfold spec_values.f
  rw [stripped_f s (by omega), Option.bind_some, parts_f s (by omega) k (by omega), Option.bind_some, stripped_f t (by omega), Option.bind_some, parts_f t (by omega) k (by omega), Option.bind_some, List.length_map]
  obtain ⟨l1, l2⟩ := parts_len s (by omega)
  obtain ⟨m1, m2⟩ := parts_len t (by omega)
  have := values_l (partsOf (bys s)) (partsOf (bys t)) (fun x hx => ⟨pat_part hp x hx, by have := l2 x hx; omega⟩) (fun x hx => by have := m2 x hx; omega) (by omega) (by omega) ((partsOf (bys s)).length + 1) k 0 [] (by omega) (by omega) (by omega) (by omega) (by simp)
  simpa using this



/-! ### Match -/
theorem valP_len : ∀ (xs ps out : List Bs), (valP xs ps out).1.length ≤ out.length + xs.length
  | [], ps, out => by simp [valP]
  | x :: xs, ps, out => by
    by_cases h2 : kdP x = 2
    · rw [valP_r h2]; simp
    · cases ps with
      | nil =>
        rw [valP_e h2]
        split
        · simp
        · split <;> simp
      | cons q ps =>
        rw [valP_c h2]
        split
        · split
          · have := valP_len xs ps out; simp; omega
          · simp
        · split
          · simp
          · have := valP_len xs ps (out ++ [q]); simp at this ⊢; omega
abbrev MR := ByteArray × List ByteArray × Bool × Int
/-- What Match answers where it tells. -/
def Final (L : List ByteArray) (path : Bs) (r : MR) : Prop := ∃ D : List Don, D.map (·.1) = L.map bys ∧ (∀ d ∈ D, DonOk path d ∧ stripAll d.1 = strip1 d.1) ∧ D.Pairwise (fun a b => tk a ≠ tk b) ∧ stripAll path = strip1 path ∧
  (1 < (foldM D).hits → (foldM D).void = false ∨ ((∀ b ∈ (foldM D).key, b ≠ 123) ∧ strip1 (foldM D).key = strip1 path)) ∧ r = (mkS (foldM D).key, (foldM D).vals.map mkS, decide ((foldM D).hits > 0), 1)
section
variable (L : List ByteArray) (path : ByteArray)
def MG (o : Option MR) : Prop := ∃ r, o = some r ∧ (r.2.2.2 = 1 → Final L (bys path) r)
theorem MG_open : MG L path (some ((⟨#[]⟩ : ByteArray), ([] : List ByteArray), false, 2)) := ⟨_, rfl, fun h => absurd h (by show ¬ (2 : Int) = 1; decide)⟩

theorem ml2 (x4 x11 : ByteArray) (x5 x16 : List ByteArray) (x9 x37 : Int) (i : Nat) (v : List Bs) (hv : v.length ≤ 100000) : ∀ (n k j : Nat) (x8 : Bool), v.length - j < n → n ≤ k → j ≤ v.length →
    (∀ k', k ≤ k' + n → MG L path (if x9 = 1 then (spec_Match.l0 k' L path x11 x16 (x8 || decide ([] ∈ v.drop j)) x9 L x37 (wrap64 ((i : Int) + 1))) else ((spec_ahead.f k' x11 x4).bind fun t189 => (if t189 = true then (spec_Match.l0 k' L path x11 x16 (x8 || decide ([] ∈ v.drop j)) x9 L x37 (wrap64 ((i : Int) + 1))) else (spec_Match.l0 k' L path x4 x5 (x8 || decide ([] ∈ v.drop j)) x9 L x37 (wrap64 ((i : Int) + 1))))))) →
    MG L path (spec_Match.l2 k L path x4 x5 x8 x9 x11 x16 L x37 (i : Int) (v.map mkS) (v.length : Int) (j : Int)) := by
  intro n
  induction n with
  | zero => intro k j x8 h; omega
  | succ n ih =>
    intro k j x8 hn hk hj hc
    obtain ⟨k, rfl⟩ : ∃ m, k = m + 1 := ⟨k - 1, by omega⟩
    rw [spec_Match.l2]
    by_cases h : j < v.length
    · rw [if_pos (by omega), if_pos (by omega), if_pos (by rw [List.length_map]; omega), wrap_nat j (by omega), rdOf_mk v j h, mkS_toL]
      rw [List.drop_eq_getElem_cons h] at hc
      cases x8 with
      | true =>
        rw [if_pos rfl]
        refine ih k (j + 1) true (by omega) (by omega) (by omega) (fun k' hk' => ?_)
        have := hc k' (by omega)
        rw [Bool.true_or] at this ⊢
        exact this
      | false =>
        rw [if_neg (by decide)]
        refine ih k (j + 1) _ (by omega) (by omega) (by omega) (fun k' hk' => ?_)
        have := hc k' (by omega)
        have e : ((v[j] == ([] : List UInt8)) || decide ([] ∈ v.drop (j + 1))) = (false || decide ([] ∈ v[j] :: v.drop (j + 1))) := by
          rw [Bool.false_or, Bool.eq_iff_iff, Bool.or_eq_true, beq_iff_eq, decide_eq_true_eq, decide_eq_true_eq, List.mem_cons]
          constructor
          · rintro (h | h)
            · exact .inl h.symm
            · exact .inr h
          · rintro (h | h)
            · exact .inl h.symm
            · exact .inr h
        rw [e]
        exact this
    · rw [if_neg (by omega)]
      have := hc k (by omega)
      rw [List.drop_of_length_le (by omega), show decide (([] : Bs) ∈ ([] : List Bs)) = false from by simp, Bool.or_false] at this
      exact this

theorem ml1 (hL : ∀ x ∈ L, x.size ≤ 100) (x4 s : ByteArray) (hs : s.size ≤ 100) (x5 : List ByteArray) (x8 : Bool) (x9 x37 : Int) (i : Nat) (hi : i ≤ L.length) (hll : L.length ≤ 1000) : ∀ (n k j : Nat), i - j < n → n + 1000 ≤ k → j ≤ i →
    (∀ t ∈ (L.take i).take j, ppB false (strip1 (bys s)) ≠ ppB false (strip1 (bys t))) →
    ((∀ t ∈ L.take i, ppB false (strip1 (bys s)) ≠ ppB false (strip1 (bys t))) → ∀ k', k ≤ k' + n → MG L path ((spec_values.f k' s path).bind fun bt183 => (if bt183.2.2 = 1 then (if bt183.2.1 = true then (spec_Match.l2 k' L path x4 x5 x8 (wrap64 (x9 + 1)) s bt183.1 L x37 (i : Int) bt183.1 (bt183.1.length : Int) 0) else (spec_Match.l0 k' L path x4 x5 x8 x9 L x37 (wrap64 ((i : Int) + 1)))) else (some ((⟨#[]⟩ : ByteArray), ([] : List ByteArray), false, 2))))) →
    MG L path (spec_Match.l1 k L path x4 x5 x8 x9 s L x37 (i : Int) (L.take i) ((L.take i).length : Int) (j : Int)) := by
  intro n
  induction n with
  | zero => intro k j h; omega
  | succ n ih =>
    intro k j hn hk hj hd hc
    obtain ⟨k, rfl⟩ : ∃ m, k = m + 1 := ⟨k - 1, by omega⟩
    have htl : (L.take i).length = i := by rw [List.length_take]; omega
    rw [spec_Match.l1, htl]
    by_cases h : j < i
    · have hjl : j < (L.take i).length := by rw [htl]; exact h
      have hrd : rdOf ByteArray.empty (L.take i) (j : Int) = (L.take i)[j] := by
        unfold rdOf
        rw [show ((j : Nat) : Int).toNat = j from by simp, List.getD_eq_getElem?_getD, List.getElem?_eq_getElem hjl]
        rfl
      have hsz := hL _ (List.mem_of_mem_take (List.getElem_mem hjl))
      have hst := strip1_len (bys s)
      have htt := strip1_len (bys (L.take i)[j])
      rw [size_list] at hst htt
      rw [if_pos (by omega), if_pos (by omega), if_pos (by omega), hrd, stripped_f s (by omega), Option.bind_some, pp_f _ (by rw [mkS_size]; omega) k (by rw [mkS_size]; omega), Option.bind_some, stripped_f _ (by omega), Option.bind_some, pp_f _ (by rw [mkS_size]; omega) k (by rw [mkS_size]; omega), Option.bind_some, wrap_nat j (by omega)]
      rw [show bys (mkS (strip1 (bys s))) = strip1 (bys s) from mkS_toList _, show bys (mkS (strip1 (bys (L.take i)[j]))) = strip1 (bys (L.take i)[j]) from mkS_toList _, mkS_toL, mkS_toL]
      by_cases he : ppB false (strip1 (bys s)) = ppB false (strip1 (bys (L.take i)[j]))
      · rw [if_pos he]
        exact MG_open L path
      · rw [if_neg he]
        have := ih k (j + 1) (by omega) (by omega) (by omega) ?_ (fun hall k' hk' => hc hall k' (by omega))
        · rw [htl] at this
          exact this
        · intro t ht
          rw [List.take_add_one, List.getElem?_eq_getElem hjl] at ht
          rcases List.mem_append.1 ht with ht | ht
          · exact hd t ht
          · have : t = (L.take i)[j] := by simpa using ht
            rw [this]; exact he
    · rw [if_neg (by omega)]
      refine hc ?_ k (by omega)
      have hji : j = i := by omega
      subst hji
      rw [List.take_of_length_le (by omega)] at hd
      exact hd

theorem decide_pos (n : Nat) : decide (((n : Nat) : Int) > 0) = decide (n > 0) := by rw [decide_eq_decide]; omega
/-- From the i-th pattern on. -/
def NextOk (n i : Nat) : Prop := ∀ (k : Nat) (D : List Don) (key : Bs) (vals : List Bs) (void : Bool) (hits : Nat), foldM D = ⟨key, vals, void, hits⟩ → 2000 * n + 100000 ≤ k → D.map (·.1) = (L.take i).map bys → (∀ d ∈ D, DonOk (bys path) d ∧ stripAll d.1 = strip1 d.1) → D.Pairwise (fun a b => tk a ≠ tk b) → hits ≤ i → key.length ≤ 100 → (hits ≠ 0 → PatOk (partsOf key)) →
  MG L path (spec_Match.l0 k L path (mkS key) (vals.map mkS) void (hits : Int) L (L.length : Int) (i : Int))

theorem stepM_hit (st : MSt) (s : Bs) (v : List Bs) : stepM st (s, v, true) = if st.hits = 0 ∨ ahd (partsOf s) (partsOf st.key) = true then ⟨s, v, st.void || decide ([] ∈ v), st.hits + 1⟩ else ⟨st.key, st.vals, st.void || decide ([] ∈ v), st.hits + 1⟩ := by
  unfold stepM
  rw [if_neg (show ¬ ((s, v, true) : Don).2.2 = false from by simp)]
theorem stepV (hp : path.size ≤ 100) {n i : Nat} (hN : NextOk L path n (i + 1)) (hi : i < L.length) (hll : L.length ≤ 100) {D : List Don} {key : Bs} {vals : List Bs} {void : Bool} {hits : Nat} (hst : foldM D = ⟨key, vals, void, hits⟩)
    (hD : D.map (·.1) = (L.take i).map bys) (hok : ∀ d ∈ D, DonOk (bys path) d ∧ stripAll d.1 = strip1 d.1) (hpw : D.Pairwise (fun a b => tk a ≠ tk b)) (hh : hits ≤ i) (hkl : key.length ≤ 100) (hkp : hits ≠ 0 → PatOk (partsOf key))
    (s : ByteArray) (hse : L[i] = s) (hsz : s.size ≤ 100) (hpo : PatOk (partsOf (bys s))) (hsa : stripAll (bys s) = strip1 (bys s)) (hne : ∀ d ∈ D, tk d ≠ toksQ (partsOf (bys s))) (k1 : Nat) (hk1 : 2000 * n + 101000 ≤ k1) :
    MG L path ((spec_values.f k1 s path).bind fun bt183 => (if bt183.2.2 = 1 then (if bt183.2.1 = true then (spec_Match.l2 k1 L path (mkS key) (vals.map mkS) void (wrap64 ((hits : Int) + 1)) s bt183.1 L (L.length : Int) (i : Int) bt183.1 (bt183.1.length : Int) 0) else (spec_Match.l0 k1 L path (mkS key) (vals.map mkS) void (hits : Int) L (L.length : Int) (wrap64 ((i : Int) + 1)))) else (some ((⟨#[]⟩ : ByteArray), ([] : List ByteArray), false, 2)))) := by
  obtain ⟨rv, hrv, v1, v2⟩ := values_f s path hsz hp hpo k1 (by omega)
  have hvl := valP_len (partsOf (bys s)) (partsOf (bys path)) []
  have hpl := (parts_len s (by omega)).1
  rw [hrv, Option.bind_some, wrap_nat i (by omega)]
  generalize hvp : valP (partsOf (bys s)) (partsOf (bys path)) [] = V at v1 v2 hvl
  obtain ⟨vv, vis, vt⟩ := V
  have hvlen : vv.length ≤ 101 := by
    simp only [List.length_nil, Nat.zero_add] at hvl
    omega
  clear hvl hpl
  cases vt with
  | false =>
    have v1' : rv.2.2 = 2 := by simpa using v1
    rw [if_neg (by rw [v1']; decide)]
    exact MG_open L path
  | true =>
    have v1' : rv.2.2 = 1 := by simpa using v1
    rw [if_pos v1']
    obtain ⟨v3, v4⟩ := v2 rfl
    have htk : L.take (i + 1) = L.take i ++ [s] := by rw [List.take_add_one, List.getElem?_eq_getElem hi, hse]; rfl
    have hD' : ∀ vis : Bool, (D ++ [((bys s, vv, vis) : Don)]).map (fun d : Don => d.1) = (L.take (i + 1)).map bys := fun vis => by rw [List.map_append, hD, htk, List.map_append]; rfl
    have hok' : ∀ d ∈ D ++ [(bys s, vv, vis)], DonOk (bys path) d ∧ stripAll d.1 = strip1 d.1 := by
      intro d hd
      rcases List.mem_append.1 hd with hd | hd
      · exact hok d hd
      · rw [List.mem_singleton.1 hd]; exact ⟨⟨hpo, hvp⟩, hsa⟩
    have hpw' : (D ++ [(bys s, vv, vis)]).Pairwise (fun a b => tk a ≠ tk b) := by
      rw [List.pairwise_append]
      refine ⟨hpw, List.pairwise_singleton _ _, fun a ha b hb => ?_⟩
      rw [List.mem_singleton.1 hb]
      exact hne a ha
    have hsl : (bys s).length ≤ 100 := by rw [size_list]; exact hsz
    cases vis with
    | false =>
      have hf : foldM (D ++ [(bys s, vv, false)]) = ⟨key, vals, void, hits⟩ := by rw [foldM_snoc, stepM, if_pos rfl, hst]
      have v3' : rv.2.1 = false := v3
      rw [if_neg (by rw [v3']; decide)]
      exact hN k1 _ key vals void hits hf (by omega) (hD' _) hok' hpw' (by omega) hkl hkp
    | true =>
      have hv5 : rv.1 = vv.map mkS := v4 rfl
      have v3' : rv.2.1 = true := v3
      have hw9 : wrap64 ((hits : Int) + 1) = ((hits + 1 : Nat) : Int) := wrap_nat _ (by omega)
      rw [if_pos v3', hv5, hw9, List.length_map]
      clear hw9 v1 v1' v3 v3' v4
      refine ml2 L path (mkS key) s _ _ _ _ i vv (by omega) (vv.length + 1) k1 0 _ (by omega) (by omega) (by omega) ?_
      intro k2 hk2
      have hk2b : 2000 * n + 100000 ≤ k2 := by omega
      rw [List.drop_zero, wrap_nat i (by omega)]
      have hstep : stepM ⟨key, vals, void, hits⟩ (bys s, vv, true) = if hits = 0 ∨ ahd (partsOf (bys s)) (partsOf key) = true then ⟨bys s, vv, void || decide ([] ∈ vv), hits + 1⟩ else ⟨key, vals, void || decide ([] ∈ vv), hits + 1⟩ := stepM_hit _ _ _
      have yes : (hits = 0 ∨ ahd (partsOf (bys s)) (partsOf key) = true) → MG L path (spec_Match.l0 k2 L path s (vv.map mkS) (void || decide ([] ∈ vv)) ((hits + 1 : Nat) : Int) L (L.length : Int) ((i + 1 : Nat) : Int)) := by
        intro hc
        have hf : foldM (D ++ [(bys s, vv, true)]) = ⟨bys s, vv, void || decide ([] ∈ vv), hits + 1⟩ := by
          rw [foldM_snoc, hst, hstep, if_pos hc]
        have := hN k2 _ (bys s) vv (void || decide ([] ∈ vv)) (hits + 1) hf hk2b (hD' _) hok' hpw' (Nat.succ_le_succ hh) hsl (fun _ => hpo)
        rw [show mkS (bys s) = s from mkS_self s] at this
        exact this
      have no : ¬ (hits = 0 ∨ ahd (partsOf (bys s)) (partsOf key) = true) → MG L path (spec_Match.l0 k2 L path (mkS key) (vals.map mkS) (void || decide ([] ∈ vv)) ((hits + 1 : Nat) : Int) L (L.length : Int) ((i + 1 : Nat) : Int)) := by
        intro hc
        have hf : foldM (D ++ [(bys s, vv, true)]) = ⟨key, vals, void || decide ([] ∈ vv), hits + 1⟩ := by
          rw [foldM_snoc, hst, hstep, if_neg hc]
        exact hN k2 _ key vals (void || decide ([] ∈ vv)) (hits + 1) hf hk2b (hD' _) hok' hpw' (Nat.succ_le_succ hh) hkl (fun _ => hkp (fun e => hc (.inl e)))
      by_cases hz : hits = 0
      · rw [if_pos (by rw [hz]; rfl)]
        exact yes (.inl hz)
      · have hbk : bys (mkS key) = key := mkS_toList _
        rw [if_neg (by omega), ahead_f s (mkS key) (by omega) (by rw [mkS_size]; omega) hpo (by rw [hbk]; exact hkp hz) k2 (by omega), Option.bind_some, hbk]
        by_cases ha : ahd (partsOf (bys s)) (partsOf key) = true
        · rw [if_pos ha]
          exact yes (.inr ha)
        · rw [if_neg ha]
          exact no (fun e => by rcases e with e | e; exact hz e; exact ha e)

theorem stepS (hL : ∀ x ∈ L, x.size ≤ 100) (hp : path.size ≤ 100) {n i : Nat} (hN : NextOk L path n (i + 1)) (hi : i < L.length) (hll : L.length ≤ 100) {D : List Don} {key : Bs} {vals : List Bs} {void : Bool} {hits : Nat} (hst : foldM D = ⟨key, vals, void, hits⟩)
    (hD : D.map (·.1) = (L.take i).map bys) (hok : ∀ d ∈ D, DonOk (bys path) d ∧ stripAll d.1 = strip1 d.1) (hpw : D.Pairwise (fun a b => tk a ≠ tk b)) (hh : hits ≤ i) (hkl : key.length ≤ 100) (hkp : hits ≠ 0 → PatOk (partsOf key))
    (s : ByteArray) (hse : L[i] = s) (hsz : s.size ≤ 100) (k : Nat) (hk : 2000 * n + 101500 ≤ k) (x66 : Bool) (f : Nat) (hPS : PS (bys s) f) (hx : x66 = false → (¬ [47, 47] <:+: bys s) ∧ (s.size ≤ 1 ∨ (bys s).getLast? ≠ some 47)) :
    MG L path (spec_Match.j2 k L path (mkS key) (vals.map mkS) void (hits : Int) (i : Int) s L (L.length : Int) (i : Int) x66) := by
  obtain ⟨k, rfl⟩ : ∃ m, k = m + 1 := ⟨k - 1, by omega⟩
  rw [spec_Match.j2]
  cases x66 with
  | true =>
    rw [if_pos rfl]
    exact MG_open L path
  | false =>
    obtain ⟨hhol, hend⟩ := hx rfl
    obtain ⟨hpo, hsa⟩ := good_parts hPS hhol (by rw [size_list]; exact hend)
    rw [if_neg (by decide), if_pos (by omega), if_pos (by omega), show ((i : Nat) : Int).toNat = i from by simp]
    refine ml1 L path hL (mkS key) s hsz _ _ _ _ i (by omega) (by omega) (i + 1) k 0 (by omega) (by omega) (by omega) (by simp) ?_
    intro hdiff k1 hk1
    refine stepV L path hp hN hi hll hst hD hok hpw hh hkl hkp s hse hsz hpo hsa ?_ k1 (by omega)
    intro d hd he
    have hdm : d.1 ∈ (L.take i).map bys := by rw [← hD]; exact List.mem_map.2 ⟨d, hd, rfl⟩
    obtain ⟨t, ht, hte⟩ := List.mem_map.1 hdm
    apply hdiff t ht
    rw [pp_parts hpo, hte, pp_parts (hok d hd).1.1, ← he]
    rfl

theorem match_l (hL : ∀ x ∈ L, x.size ≤ 100) (hll : L.length ≤ 100) (hp : path.size ≤ 100) (hpath : stripAll (bys path) = strip1 (bys path)) : ∀ (n i : Nat), L.length - i < n → i ≤ L.length → NextOk L path n i := by
  intro n
  induction n with
  | zero => intro i h; omega
  | succ n ih =>
    intro i hn hi k D key vals void hits hst hk hD hok hpw hhits hkl hkp
    obtain ⟨k, rfl⟩ : ∃ m, k = m + 1 := ⟨k - 1, by omega⟩
    rw [spec_Match.l0]
    by_cases h : i < L.length
    · have hrd : rdOf ByteArray.empty L (i : Int) = L[i] := by
        unfold rdOf
        rw [show ((i : Nat) : Int).toNat = i from by simp, List.getD_eq_getElem?_getD, List.getElem?_eq_getElem h]
        rfl
      have hsz := hL _ (List.getElem_mem h)
      have hN := ih (i + 1) (by omega) (by omega)
      rw [if_pos (by omega), if_pos (by omega), if_pos (by omega), hrd]
      generalize hse : L[i] = s at hsz
      obtain ⟨rp, hrp, hps⟩ := pieces_f s hsz k (by omega)
      rw [hrp, Option.bind_some]
      have J2 := fun (x66 : Bool) (f : Nat) (hPS : PS (bys s) f) (hx : x66 = false → (¬ [47, 47] <:+: bys s) ∧ (s.size ≤ 1 ∨ (bys s).getLast? ≠ some 47)) => stepS L path hL hp hN h hll hst hD hok hpw hhits hkl hkp s hse hsz k (by omega) x66 f hPS hx
      have j2t : MG L path (spec_Match.j2 k L path (mkS key) (vals.map mkS) void (hits : Int) (i : Int) s L (L.length : Int) (i : Int) true) := by
        obtain ⟨k, rfl⟩ : ∃ m, k = m + 1 := ⟨k - 1, by omega⟩
        rw [spec_Match.j2, if_pos rfl]
        exact MG_open L path
      by_cases htold : rp.2 = 1
      · rw [if_pos htold]
        obtain ⟨f, hPS⟩ := hps htold
        obtain ⟨bh, hbh, hhol⟩ := hollow_f s (by omega) k (by omega)
        have hj2 : ∀ hend : (s.size ≤ 1 ∨ (bys s).getLast? ≠ some 47), MG L path ((spec_hollow.f k s).bind fun t175 => (spec_Match.j2 k L path (mkS key) (vals.map mkS) void (hits : Int) (i : Int) s L (L.length : Int) (i : Int) t175)) := by
          intro hend
          rw [hbh, Option.bind_some]
          exact J2 bh f hPS (fun hb => ⟨hhol hb, hend⟩)
        by_cases h1 : 1 < s.size
        · have hw : wrap64 ((s.size : Int) - 1) = ((s.size - 1 : Nat) : Int) := by rw [wrap_any _ (by omega) (by omega)]; omega
          have hlt : s.size - 1 < s.data.toList.length := by rw [size_list]; omega
          rw [if_pos (by omega), hw, if_pos (by omega), if_pos (by omega)]
          by_cases hc : s.data.toList[s.size - 1] = 47
          · rw [if_pos ((bt47 s (s.size - 1) (by omega)).2 hc)]
            exact j2t
          · rw [if_neg (fun e => hc ((bt47 s (s.size - 1) (by omega)).1 e))]
            refine hj2 (.inr ?_)
            rw [List.getLast?_eq_getElem?, size_list, List.getElem?_eq_getElem hlt]
            simpa using hc
        · rw [if_neg (by omega)]
          exact hj2 (.inl (by omega))
      · rw [if_neg htold]
        exact j2t
    · rw [if_neg (by omega)]
      have hi2 : i = L.length := by omega
      subst hi2
      rw [List.take_length] at hD
      rw [decide_pos]
      have hbk : bys (mkS key) = key := mkS_toList _
      have good : (1 < hits → void = false ∨ ((∀ b ∈ key, b ≠ 123) ∧ strip1 key = strip1 (bys path))) → MG L path (some (mkS key, vals.map mkS, decide (hits > 0), 1)) :=
        fun hg => ⟨_, rfl, fun _ => ⟨D, hD, hok, hpw, hpath, by rw [hst]; exact hg, by rw [hst]⟩⟩
      by_cases hh : 1 < hits
      · rw [if_pos (by omega)]
        by_cases hv : void = true
        · rw [if_pos hv]
          obtain ⟨b, hb, hb2⟩ := conc_f (mkS key) (by rw [mkS_size]; omega) k (by rw [mkS_size]; omega)
          rw [hb, Option.bind_some]
          rw [hbk] at hb2
          by_cases hbt : b = true
          · rw [if_pos hbt, stripped_f _ (by rw [mkS_size]; omega), Option.bind_some, stripped_f path (by omega), Option.bind_some, hbk, mkS_toL, mkS_toL]
            split
            · rename_i he
              exact good (fun _ => .inr ⟨hb2.1 hbt, he⟩)
            · exact MG_open L path
          · rw [if_neg hbt]
            exact MG_open L path
        · rw [if_neg hv]
          exact good (fun _ => .inl (by simpa using hv))
      · rw [if_neg (by omega)]
        exact good (fun h => absurd h hh)

theorem match_f (hL : ∀ x ∈ L, x.size ≤ 100) (hll : L.length ≤ 100) (hp : path.size ≤ 100) (k : Nat) (hk : 400000 ≤ k) : MG L path (spec_Match.f k L path) := by
  obtain ⟨k, rfl⟩ : ∃ m, k = m + 1 := ⟨k - 1, by omega⟩
  unfold spec_Match.f
  have jt : MG L path (spec_Match.j0 (k + 1) L path (⟨#[]⟩ : ByteArray) ([] : List ByteArray) true) := by
    rw [spec_Match.j0, if_pos rfl]
    exact MG_open L path
  have jf : (∀ r, bys path ≠ r ++ [47, 47]) → MG L path (spec_Match.j0 (k + 1) L path (⟨#[]⟩ : ByteArray) ([] : List ByteArray) false) := by
    intro hno
    rw [spec_Match.j0, if_neg (by decide)]
    exact match_l L path hL hll hp (stripAll_strip1 hno) (L.length + 1) 0 (by omega) (by omega) k [] [] [] false 0 rfl (by omega) (by simp) (by simp) List.Pairwise.nil (by omega) (by simp) (by simp)
  split
  · exact jt
  · split
    · have hw : wrap64 ((path.size : Int) - 2) = ((path.size - 2 : Nat) : Int) := by rw [wrap_any _ (by omega) (by omega)]; omega
      rw [hw, if_pos (by omega), if_pos (by omega), show ((path.size - 2 : Nat) : Int).toNat = path.size - 2 from by simp, ext_mk, mkS_toL]
      rw [List.take_of_length_le (by rw [size_list]; exact Nat.le_refl _)]
      cases hb : (List.drop (path.size - 2) path.data.toList == ([47, 47] : List UInt8)) with
      | true => exact jt
      | false =>
        refine jf (fun r hr => ?_)
        have hsz : path.size = r.length + 2 := by rw [← size_list, show path.data.toList = r ++ [47, 47] from hr]; simp
        have : List.drop (path.size - 2) path.data.toList = [47, 47] := by
          rw [show path.data.toList = r ++ [47, 47] from hr, hsz]
          simp
        rw [this] at hb
        exact absurd hb (by decide)
    · refine jf (fun r hr => ?_)
      have hsz : path.size = r.length + 2 := by rw [← size_list, show path.data.toList = r ++ [47, 47] from hr]; simp
      omega
end
end Go.Proofs.YtpdnjgbcnnjdiaaDoor
