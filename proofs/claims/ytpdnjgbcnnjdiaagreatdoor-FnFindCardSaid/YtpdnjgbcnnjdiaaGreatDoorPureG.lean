/- Names and stars within braces; starless, Find as functions on lists. -/
import Derived.Test.YtpdnjgbcnnjdiaaGreatDoorPureF
namespace Go.Proofs.YtpdnjgbcnnjdiaaGreatDoor
open Go Go.RowKit Go.Proofs.YtpdnjgbcnnjdiaaGreatDoorW.PrintWords Go.Proofs.YtpdnjgbcnnjdiaaGreatDoor.PFnFind
set_option linter.unusedVariables false
set_option linter.unusedSimpArgs false

/-! ### Names and stars within braces -/
/-- What normalizeTemplatedPath writes: nothing of what stands in braces. -/
def nB : Bool → Bs → Bs
  | _, [] => []
  | true, c :: r => if c = 125 then 125 :: nB false r else nB true r
  | false, c :: r => if c = 123 then 123 :: nB true r else c :: nB false r
/-- How many braces open. -/
def cB : Bool → Bs → Nat
  | _, [] => 0
  | true, c :: r => if c = 125 then cB false r else cB true r
  | false, c :: r => if c = 123 then cB true r + 1 else cB false r
def sl (x : Bs) : Bs := x.filter (· != 42)

/-- Braces open and close by turns. -/
inductive Alt : Bs → Prop
  | nil : Alt []
  | cst (c : UInt8) (r : Bs) : c ≠ 123 → c ≠ 125 → Alt r → Alt (c :: r)
  | var (nm r : Bs) : (∀ b ∈ nm, b ≠ 123 ∧ b ≠ 125) → Alt r → Alt (123 :: (nm ++ 125 :: r))

theorem pp_in (nm r : Bs) (h : ∀ b ∈ nm, b ≠ 123 ∧ b ≠ 125) : ppB true (nm ++ r) = nm.filter (· == 42) ++ ppB true r := by
  induction nm with
  | nil => rfl
  | cons a t ih =>
    have ha := h a (by simp)
    have := ih (fun b hb => h b (List.mem_cons_of_mem _ hb))
    rw [List.cons_append, ppB, if_neg ha.1, if_neg ha.2, this]
    by_cases h42 : a = 42
    · subst h42; simp
    · rw [if_neg (by simp [h42])]; simp [h42]
theorem nB_in (nm r : Bs) (h : ∀ b ∈ nm, b ≠ 123 ∧ b ≠ 125) : nB true (nm ++ r) = nB true r := by
  induction nm with
  | nil => rfl
  | cons a t ih => rw [List.cons_append, nB, if_neg (h a (by simp)).2, ih (fun b hb => h b (List.mem_cons_of_mem _ hb))]
theorem cB_in (nm r : Bs) (h : ∀ b ∈ nm, b ≠ 123 ∧ b ≠ 125) : cB true (nm ++ r) = cB true r := by
  induction nm with
  | nil => rfl
  | cons a t ih => rw [List.cons_append, cB, if_neg (h a (by simp)).2, ih (fun b hb => h b (List.mem_cons_of_mem _ hb))]
theorem stars_ok (nm : Bs) : ∀ b ∈ nm.filter (· == 42), b ≠ 123 ∧ b ≠ 125 := by
  intro b hb
  have h := (List.mem_filter.1 hb).2
  rw [beq_iff_eq] at h
  subst h
  exact ⟨by decide, by decide⟩
theorem stars_none (nm : Bs) : sl (nm.filter (· == 42)) = [] := by
  unfold sl
  rw [List.filter_filter, List.filter_eq_nil_iff]
  intro a _
  simp
theorem pp_open (r : Bs) : ppB false (123 :: r) = 123 :: ppB true r := by rw [ppB, if_pos rfl]
theorem pp_shut (r : Bs) : ppB true (125 :: r) = 125 :: ppB false r := by rw [ppB, if_neg (by decide), if_pos rfl]
theorem nB_open (r : Bs) : nB false (123 :: r) = 123 :: nB true r := by rw [nB, if_pos rfl]
theorem nB_shut (r : Bs) : nB true (125 :: r) = 125 :: nB false r := by rw [nB, if_pos rfl]
theorem cB_open (r : Bs) : cB false (123 :: r) = cB true r + 1 := by rw [cB, if_pos rfl]
theorem cB_shut (r : Bs) : cB true (125 :: r) = cB false r := by rw [cB, if_pos rfl]
theorem sl_cons (c : UInt8) (r : Bs) : sl (c :: r) = (if c = 42 then sl r else c :: sl r) := by
  unfold sl
  by_cases h : c = 42 <;> simp [h]
theorem sl_app (a b : Bs) : sl (a ++ b) = sl a ++ sl b := List.filter_append ..
theorem alt_pp {x : Bs} (h : Alt x) : nB false (ppB false x) = nB false x ∧ cB false (ppB false x) = cB false x ∧ sl (ppB false x) = sl (nB false x) := by
  induction h with
  | nil => exact ⟨rfl, rfl, rfl⟩
  | cst c r h1 h2 _ ih =>
    obtain ⟨i1, i2, i3⟩ := ih
    have e : ppB false (c :: r) = c :: ppB false r := by rw [ppB, if_neg h1, if_neg h2, if_pos (.inl rfl)]
    have f : ∀ z, nB false (c :: z) = c :: nB false z := fun z => by rw [nB, if_neg h1]
    have g : ∀ z, cB false (c :: z) = cB false z := fun z => by rw [cB, if_neg h1]
    rw [e, f, f, g, g, i1, i2, sl_cons, sl_cons, i3]
    exact ⟨rfl, rfl, rfl⟩
  | var nm r h _ ih =>
    obtain ⟨i1, i2, i3⟩ := ih
    have e : ppB false (123 :: (nm ++ 125 :: r)) = 123 :: (nm.filter (· == 42) ++ 125 :: ppB false r) := by rw [pp_open, pp_in _ _ h, pp_shut]
    have f : ∀ (m : Bs), (∀ b ∈ m, b ≠ 123 ∧ b ≠ 125) → ∀ z, nB false (123 :: (m ++ 125 :: z)) = 123 :: 125 :: nB false z := fun m hm z => by rw [nB_open, nB_in _ _ hm, nB_shut]
    have g : ∀ (m : Bs), (∀ b ∈ m, b ≠ 123 ∧ b ≠ 125) → ∀ z, cB false (123 :: (m ++ 125 :: z)) = cB false z + 1 := fun m hm z => by rw [cB_open, cB_in _ _ hm, cB_shut]
    rw [e, f _ (stars_ok nm), f _ h, g _ (stars_ok nm), g _ h, i1, i2]
    refine ⟨rfl, rfl, ?_⟩
    rw [sl_cons, if_neg (by decide), sl_app, stars_none, List.nil_append, sl_cons, if_neg (by decide), i3, sl_cons, if_neg (by decide), sl_cons, if_neg (by decide)]

theorem alt_cst {z r : Bs} (h : ∀ b ∈ z, b ≠ 123 ∧ b ≠ 125) (hr : Alt r) : Alt (z ++ r) := by
  induction z with
  | nil => exact hr
  | cons a t ih => exact .cst a _ (h a (by simp)).1 (h a (by simp)).2 (ih (fun b hb => h b (List.mem_cons_of_mem _ hb)))
theorem alt_part {z r : Bs} (h : Cst z ∨ Vrb z ∨ Rst z) (hr : Alt r) : Alt (z ++ r) := by
  rcases h with h | ⟨nm, _, hw, rfl⟩ | ⟨nm, _, hw, rfl⟩
  · exact alt_cst (fun b hb => (h b hb).2) hr
  · have := Alt.var nm r (fun b hb => ⟨(word_ne (hw b hb)).2.2.1, (word_ne (hw b hb)).2.2.2⟩) hr
    simpa using this
  · have := Alt.var (nm ++ [42]) r (fun b hb => by
      rcases List.mem_append.1 hb with hb | hb
      · exact ⟨(word_ne (hw b hb)).2.2.1, (word_ne (hw b hb)).2.2.2⟩
      · rw [List.mem_singleton.1 hb]; exact ⟨by decide, by decide⟩) hr
    simpa using this
theorem alt_tail : ∀ l : List Bs, (∀ z ∈ l, Cst z ∨ Vrb z ∨ Rst z) → Alt (tailB l)
  | [], _ => .nil
  | x :: xs, h => by
    rw [tailB_cons]
    exact .cst 47 _ (by decide) (by decide) (alt_part (h x (by simp)) (alt_tail xs (fun z hz => h z (List.mem_cons_of_mem _ hz))))
theorem alt_of_PS {s : Bs} {f : Nat} (h : PS s f) : Alt s := by
  obtain ⟨i, x, rfl, h1, _, h3⟩ := h
  have hx : Cst x ∨ Vrb x ∨ Rst x := by
    rcases h3 with ⟨_, h⟩ | ⟨_, h, _⟩ | ⟨_, h, _⟩
    · exact .inl h
    · exact .inr (.inl h)
    · exact .inr (.inr h)
  have hall : ∀ z ∈ i ++ [x], Cst z ∨ Vrb z ∨ Rst z := fun z hz => by
    rcases List.mem_append.1 hz with hz | hz
    · rcases h1 z hz with h | h
      · exact .inl h
      · exact .inr (.inl h)
    · rw [List.mem_singleton.1 hz]; exact hx
  cases hl : i ++ [x] with
  | nil => simp at hl
  | cons a r =>
    rw [hl] at hall
    rw [joinB_cons]
    exact alt_part (hall a (by simp)) (alt_tail r (fun z hz => hall z (List.mem_cons_of_mem _ hz)))

/-- What the program compares. -/
def nF (x : Bs) : Bs × Nat := (nB false x, cB false x)
theorem pp_nF {x y : Bs} (hx : Alt x) (hy : Alt y) (h : ppB false x = ppB false y) : nF x = nF y := by
  obtain ⟨a1, a2, _⟩ := alt_pp hx
  obtain ⟨b1, b2, _⟩ := alt_pp hy
  unfold nF
  rw [← a1, ← a2, ← b1, ← b2, h]
theorem nF_sl {x y : Bs} (hx : Alt x) (hy : Alt y) (h : nF x = nF y) : sl (ppB false x) = sl (ppB false y) := by
  rw [(alt_pp hx).2.2, (alt_pp hy).2.2, (Prod.mk.injEq .. ▸ h : nB false x = nB false y ∧ cB false x = cB false y).1]

/-! ### starless, Find -/
theorem joinB_nil (l : List Bs) : joinB [] l = l.flatten := by
  cases l with
  | nil => rfl
  | cons a r => simp [joinB, List.flatMap_id']
theorem splitB_flat (y : UInt8) : ∀ (l seg : Bs), (splitB y seg l).flatten = seg ++ l.filter (· != y)
  | [], seg => by simp [splitB]
  | c :: r, seg => by
    rw [splitB]
    by_cases h : c = y
    · rw [if_pos h, List.flatten_cons, splitB_flat y r []]
      simp [h]
    · rw [if_neg h, splitB_flat y r]
      simp [h]
theorem starless_f (x : Bs) (hx : x.length ≤ 1000) (k : Nat) (hk : 1002 ≤ k) : spec_starless.f k (mkS x) = some (mkS (sl x)) := by
  unfold spec_starless.f
  have h1 := parted_f (mkS x) 42 (by rw [mkS_size]; omega) k (by rw [mkS_size]; omega)
  rw [mkS_toList] at h1
  rw [show ((42 : Int)) = (((42 : UInt8).toNat : Nat) : Int) from rfl, h1, Option.bind_some]
  obtain ⟨l1, l2⟩ := splitB_lenP 42 x []
  have h2 := joinTexts_f [] (splitB 42 [] x) (by omega) (by
    have := joinB_lenP [] x.length (splitB 42 [] x) (fun z hz => by have := l2 z hz; simpa using this)
    have h3 : (splitB 42 [] x).length * (([] : Bs).length + x.length) ≤ 1001 * 1000 := Nat.mul_le_mul (by omega) (by simp; omega)
    have h4 := splitB_flat 42 x []
    have h5 : (joinB [] (splitB 42 [] x)).length ≤ x.length := by
      rw [joinB_nil, h4, List.nil_append]
      exact List.length_filter_le _ _
    omega) k (by omega)
  rw [show (⟨#[]⟩ : ByteArray) = mkS [] from rfl, h2, Option.bind_some, joinB_nil, splitB_flat]
  rfl
theorem ppB_len : ∀ (w : Bool) (x : Bs), (ppB w x).length ≤ x.length
  | _, [] => by simp [ppB]
  | w, c :: r => by
    rw [ppB]
    have h1 := ppB_len true r
    have h2 := ppB_len false r
    have h3 := ppB_len w r
    split
    · simp; omega
    · split
      · simp; omega
      · split
        · simp; omega
        · simp; omega
abbrev KP (s : ByteArray) : Bs := ppB false (bys s)
abbrev KS (s : ByteArray) : Bs := sl (ppB false (bys s))
theorem toL_bys (s : ByteArray) : s.toList = bys s := toL s
theorem bys_inj {a b : ByteArray} (h : bys a = bys b) : a = b := by rw [← mkS_self a, ← mkS_self b]; exact congrArg mkS h
/-- What Find answers where it tells. -/
def FinF (L : List ByteArray) (p : ByteArray) (r : ByteArray × Bool × Int) : Prop :=
  (p ∈ L ∧ r.1 = p ∧ r.2.1 = true) ∨
  (p ∉ L ∧ Alt (bys p) ∧ (∀ t ∈ L, Alt (bys t)) ∧ ((r.2.1 = true ∧ r.1 ∈ L ∧ KP r.1 = KP p ∧ ∀ t ∈ L, t ≠ r.1 → KS t ≠ KS p) ∨ (r.2.1 = false ∧ ∀ t ∈ L, KS t ≠ KS p)))
section
variable (L : List ByteArray) (p : ByteArray) (hL : ∀ x ∈ L, x.size ≤ 100) (hll : L.length ≤ 100) (hp : p.size ≤ 100) (hpA : Alt (bys p))
include hL hll hp hpA
theorem find_l : ∀ (n i k h : Nat) (f : ByteArray), L.length - i < n → n + 100000 ≤ k → i ≤ L.length → h ≤ 2 * i → p ∉ L.take i → (∀ t ∈ L.take i, Alt (bys t)) →
    (h = 0 → ∀ t ∈ L.take i, KS t ≠ KS p) → (h = 1 → f ∈ L.take i ∧ KP f = KP p ∧ ∀ t ∈ L.take i, t ≠ f → KS t ≠ KS p) →
    ∃ r, spec_Find.l0 k p f (h : Int) L (L.length : Int) (i : Int) = some r ∧ (r.2.2 = 1 → FinF L p r) := by
  intro n
  induction n with
  | zero => intro i k h f hn; omega
  | succ n ih =>
    intro i k h f hn hk hi hh hpi hA h0 h1
    obtain ⟨k, rfl⟩ : ∃ m, k = m + 1 := ⟨k - 1, by omega⟩
    rw [spec_Find.l0]
    by_cases hlt : i < L.length
    · have hrd : rdOf ByteArray.empty L (i : Int) = L[i] := by simp [rdOf, List.getD, hlt]
      have htk : L.take (i + 1) = L.take i ++ [L[i]] := by rw [List.take_add_one, List.getElem?_eq_getElem hlt]; rfl
      have hsz := hL _ (List.getElem_mem hlt)
      have hmem : L[i] ∈ L := List.getElem_mem hlt
      rw [if_pos (by omega), if_pos (by omega), if_pos (by omega), hrd]
      generalize L[i] = t at htk hsz hmem
      obtain ⟨r, hr, hr1⟩ := pieces_f t hsz k (by omega)
      rw [hr, Option.bind_some]
      by_cases hr2 : r.2 = 1
      · rw [if_pos hr2]
        obtain ⟨fl, hPS⟩ := hr1 hr2
        have hAt := alt_of_PS hPS
        by_cases htp : t = p
        · subst htp
          rw [if_pos rfl]
          exact ⟨_, rfl, fun _ => .inl ⟨hmem, rfl, rfl⟩⟩
        · rw [if_neg (fun e => htp (bys_inj (by rw [← toL_bys, ← toL_bys]; exact e)))]
          have hpn : p ∉ L.take (i + 1) := by
            rw [htk]
            intro hm
            rcases List.mem_append.1 hm with hm | hm
            · exact hpi hm
            · exact htp (List.mem_singleton.1 hm).symm
          have hA1 : ∀ u ∈ L.take (i + 1), Alt (bys u) := by
            rw [htk]
            intro u hm
            rcases List.mem_append.1 hm with hm | hm
            · exact hA u hm
            · rw [List.mem_singleton.1 hm]; exact hAt
          have w1 : wrap64 ((h : Int) + 1) = ((h + 1 : Nat) : Int) := by unfold wrap64; omega
          have w2 : wrap64 ((h : Int) + 2) = ((h + 2 : Nat) : Int) := by unfold wrap64; omega
          have w3 : wrap64 ((i : Int) + 1) = ((i + 1 : Nat) : Int) := by unfold wrap64; omega
          have lt1 : (KP t).length ≤ 1000 := by have := ppB_len false (bys t); rw [size_list] at this; exact Nat.le_trans this (by omega)
          have lp1 : (KP p).length ≤ 1000 := by have := ppB_len false (bys p); rw [size_list] at this; exact Nat.le_trans this (by omega)
          have hmk : ∀ a b : Bs, (mkS a).toList = (mkS b).toList ↔ a = b := fun a b => by rw [toL, toL, mkS_toList, mkS_toList]
          simp only [pp_f t (by omega) k (by omega), pp_f p (by omega) k (by omega), Option.bind_some, w1, w2, w3, hmk]
          clear w1 w2 w3
          by_cases hK : KP t = KP p
          · rw [if_pos hK]
            refine ih (i + 1) k (h + 1) t (by omega) (by omega) (by omega) (by omega) hpn hA1 (fun e => by omega) (fun e => ?_)
            have hz := h0 (by omega)
            rw [htk]
            refine ⟨by simp, hK, fun u hm hne => ?_⟩
            rcases List.mem_append.1 hm with hm | hm
            · exact hz u hm
            · exact absurd (List.mem_singleton.1 hm) hne
          · rw [if_neg hK]
            simp only [starless_f _ lt1 k (by omega), starless_f _ lp1 k (by omega), Option.bind_some, hmk]
            by_cases hS : KS t = KS p
            · rw [if_pos hS]
              exact ih (i + 1) k (h + 2) f (by omega) (by omega) (by omega) (by omega) hpn hA1 (fun e => by omega) (fun e => by omega)
            · rw [if_neg hS]
              refine ih (i + 1) k h f (by omega) (by omega) (by omega) (by omega) hpn hA1 (fun e => ?_) (fun e => ?_)
              · rw [htk]
                intro u hm
                rcases List.mem_append.1 hm with hm | hm
                · exact h0 e u hm
                · rw [List.mem_singleton.1 hm]; exact hS
              · obtain ⟨g1, g2, g3⟩ := h1 e
                rw [htk]
                refine ⟨List.mem_append_left _ g1, g2, fun u hm hne => ?_⟩
                rcases List.mem_append.1 hm with hm | hm
                · exact g3 u hm hne
                · rw [List.mem_singleton.1 hm]; exact hS
      · rw [if_neg hr2]
        exact ⟨_, rfl, fun e => absurd e (by show ¬ (2 : Int) = 1; decide)⟩
    · have hie : i = L.length := by omega
      subst hie
      rw [List.take_length] at hpi hA h0 h1
      rw [if_neg (by omega)]
      by_cases h2 : h ≤ 1
      · rw [if_neg (by omega)]
        refine ⟨_, rfl, fun _ => .inr ⟨hpi, hpA, hA, ?_⟩⟩
        by_cases hz : h = 0
        · subst hz
          exact .inr ⟨rfl, h0 rfl⟩
        · have : h = 1 := by omega
          subst this
          exact .inl ⟨rfl, h1 rfl⟩
      · rw [if_pos (by omega)]
        exact ⟨_, rfl, fun e => absurd e (by show ¬ (2 : Int) = 1; decide)⟩
end
theorem find_f (L : List ByteArray) (p : ByteArray) (hL : ∀ x ∈ L, x.size ≤ 100) (hll : L.length ≤ 100) (hp : p.size ≤ 100) (k : Nat) (hk : 200000 ≤ k) : ∃ r, spec_Find.f k L p = some r ∧ (r.2.2 = 1 → FinF L p r) := by
  unfold spec_Find.f
  obtain ⟨r, hr, hr1⟩ := pieces_f p hp k (by omega)
  rw [hr, Option.bind_some]
  by_cases hr2 : r.2 = 1
  · rw [if_pos hr2]
    obtain ⟨fl, hPS⟩ := hr1 hr2
    exact find_l L p hL hll hp (alt_of_PS hPS) (L.length + 1) 0 k 0 _ (by omega) (by omega) (by omega) (by omega) (by simp) (by simp) (fun _ => by simp) (fun e => by omega)
  · rw [if_neg hr2]
    exact ⟨_, rfl, fun e => absurd e (by show ¬ (2 : Int) = 1; decide)⟩
end Go.Proofs.YtpdnjgbcnnjdiaaGreatDoor
