/- Patterns as their parts between slashes: what the reference's values say of a path, told by the tokens' match. -/
import Derived.Test.YtpdnjgbcnnjdiaaDoorPure1
import Derived.Test.YtpdnjgbcnnjdiaaDoorLook
namespace Go.Proofs.YtpdnjgbcnnjdiaaDoor
open Go Go.RowKit
set_option linter.unusedVariables false
set_option linter.unusedSimpArgs false

theorem takeP (f rest : Bs) (h : 47 ∉ f) (hr : rest = [] ∨ ∃ r', rest = 47 :: r') : (f ++ rest).takeWhile (· != 47) = f ∧ (f ++ rest).dropWhile (· != 47) = rest := by
  induction f with
  | nil => rcases hr with rfl | ⟨r', rfl⟩ <;> simp
  | cons a t ih =>
    have h1 : a ≠ 47 := fun e => h (by simp [e])
    have h2 := ih (fun hm => h (List.mem_cons_of_mem _ hm))
    have h3 : (a != 47) = true := by simpa using h1
    rw [List.cons_append, List.takeWhile_cons, List.dropWhile_cons, h3]
    simp [h2.1, h2.2]

def Cst (x : Bs) : Prop := ∀ b ∈ x, b ≠ 47 ∧ b ≠ 123 ∧ b ≠ 125
def wordB (b : UInt8) : Prop := (97 ≤ b.toNat ∧ b.toNat ≤ 122) ∨ (65 ≤ b.toNat ∧ b.toNat ≤ 90) ∨ (48 ≤ b.toNat ∧ b.toNat ≤ 57) ∨ b.toNat = 95
def Vrb (x : Bs) : Prop := ∃ nm : Bs, nm ≠ [] ∧ (∀ b ∈ nm, wordB b) ∧ x = 123 :: (nm ++ [125])
def Rst (x : Bs) : Prop := ∃ nm : Bs, nm ≠ [] ∧ (∀ b ∈ nm, wordB b) ∧ x = 123 :: (nm ++ [42, 125])
/-- The kind of a part. -/
def kdP (x : Bs) : Nat := if x.head? ≠ some 123 then 0 else if x.reverse[1]? = some 42 then 2 else 1
theorem kd_cst {x : Bs} (h : Cst x) : kdP x = 0 := by
  unfold kdP
  rw [if_pos]
  intro he
  cases x with
  | nil => cases he
  | cons a r => simp at he; exact (h a (by simp)).2.1 he
theorem word_ne {b : UInt8} (h : wordB b) : b ≠ 42 ∧ b ≠ 47 ∧ b ≠ 123 ∧ b ≠ 125 := by
  unfold wordB at h
  refine ⟨?_, ?_, ?_, ?_⟩ <;> (rintro rfl; revert h; decide)
theorem kd_vrb {x : Bs} (h : Vrb x) : kdP x = 1 := by
  obtain ⟨nm, h0, h1, rfl⟩ := h
  unfold kdP
  rw [if_neg (by simp), if_neg]
  cases hr : nm.reverse with
  | nil => simp at hr; exact absurd hr h0
  | cons a r =>
    have ha : a ∈ nm := by rw [← List.mem_reverse, hr]; simp
    have hw := (word_ne (h1 a ha)).1
    simp [hr, hw]
theorem kd_rst {x : Bs} (h : Rst x) : kdP x = 2 := by
  obtain ⟨nm, h0, h1, rfl⟩ := h
  unfold kdP
  rw [if_neg (by simp), if_pos (by simp)]

def TailOk : List Bs → Prop
  | [] => True
  | x :: xs => (((Cst x ∧ x ≠ []) ∨ Vrb x) ∧ TailOk xs) ∨ (Rst x ∧ xs = [])
def NoSl (ps : List Bs) : Prop := ∀ p ∈ ps, (47 : UInt8) ∉ p

def tokQ (x : Bs) : List Tok := if kdP x = 0 then (if x = [] then [] else [(0, x)]) else if kdP x = 2 then [(3, [])] else [(2, [])]
def tailT (xs : List Bs) : List Tok := xs.flatMap fun x => (0, [47]) :: tokQ x
def tailB (ps : List Bs) : Bs := ps.flatMap fun p => 47 :: p
theorem tailT_cons (x : Bs) (xs : List Bs) : tailT (x :: xs) = (0, [47]) :: (tokQ x ++ tailT xs) := rfl
theorem tailB_cons (x : Bs) (xs : List Bs) : tailB (x :: xs) = 47 :: (x ++ tailB xs) := rfl
theorem joinB_cons (x : Bs) (xs : List Bs) : joinB [47] (x :: xs) = x ++ tailB xs := rfl
theorem tok_cst {x : Bs} (h : Cst x) (h0 : x ≠ []) : tokQ x = [(0, x)] := by rw [tokQ, kd_cst h, if_pos rfl, if_neg h0]
theorem tok_nil : tokQ [] = [] := by decide
theorem tok_vrb {x : Bs} (h : Vrb x) : tokQ x = [(2, [])] := by rw [tokQ, kd_vrb h]; rfl
theorem tok_rst {x : Bs} (h : Rst x) : tokQ x = [(3, [])] := by rw [tokQ, kd_rst h]; rfl
theorem tailB_sl (ps : List Bs) : tailB ps = [] ∨ ∃ r', tailB ps = 47 :: r' := by
  cases ps with
  | nil => exact .inl rfl
  | cons p r => exact .inr ⟨_, rfl⟩

/-- What values answers: the values, whether the path matches, whether this is told (0: it is not). -/
def valP : List Bs → List Bs → List Bs → List Bs × Bool × Bool
  | [], ps, out => (out, decide (ps = []), true)
  | x :: xs, ps, out =>
    if kdP x = 2 then (out ++ [joinB [47] ps], true, true)
    else match ps with
      | [] => if kdP x ≠ 1 then ([], false, true) else if ∀ y ∈ x :: xs, kdP y = 1 then (out ++ (x :: xs).map (fun _ => []), true, true) else ([], false, false)
      | q :: ps => if kdP x = 0 then (if x = q then valP xs ps out else ([], false, true)) else if q = [] then ([], false, false) else valP xs ps (out ++ [q])

theorem valP_r {x : Bs} (h : kdP x = 2) (xs ps out : List Bs) : valP (x :: xs) ps out = (out ++ [joinB [47] ps], true, true) := by
  cases ps <;> (unfold valP; rw [if_pos h])
theorem valP_e {x : Bs} (h : kdP x ≠ 2) (xs out : List Bs) : valP (x :: xs) [] out = if kdP x ≠ 1 then ([], false, true) else if ∀ y ∈ x :: xs, kdP y = 1 then (out ++ (x :: xs).map (fun _ => []), true, true) else ([], false, false) := by
  conv => lhs; unfold valP
  rw [if_neg h]
theorem valP_c {x : Bs} (h : kdP x ≠ 2) (q : Bs) (xs ps out : List Bs) : valP (x :: xs) (q :: ps) out = if kdP x = 0 then (if x = q then valP xs ps out else ([], false, true)) else if q = [] then ([], false, false) else valP xs ps (out ++ [q]) := by
  conv => lhs; unfold valP
  rw [if_neg h]

theorem mt_stuck (xs : List Bs) (z : Bs) (r : Bs) (vs : List Bs) (h0 : z ≠ []) (h : (47 : UInt8) ∉ z) : mt (tailT xs) (z ++ r) vs = none := by
  obtain ⟨a, t, rfl⟩ := List.exists_cons_of_ne_nil h0
  have ha : a ≠ 47 := fun e => h (by simp [e])
  cases xs with
  | nil => simp [tailT, mt]
  | cons x xs =>
    rw [tailT_cons, mt, if_pos rfl, if_neg, if_neg (by simp)]
    intro hp
    rw [List.cons_append, List.cons_prefix_cons] at hp
    exact ha hp.1.symm

theorem mt_cst {x q : Bs} (hx : Cst x) (h0 : x ≠ []) (hq : (47 : UInt8) ∉ q) (xs ps : List Bs) (vs : List Bs) :
    mt (tokQ x ++ tailT xs) (q ++ tailB ps) vs = if x = q then mt (tailT xs) (tailB ps) vs else none := by
  have hx47 : (47 : UInt8) ∉ x := fun hm => (hx 47 hm).1 rfl
  have hne : x ≠ [47] := fun e => hx47 (by simp [e])
  rw [tok_cst hx h0, List.singleton_append, mt, if_pos rfl]
  by_cases he : x = q
  · subst he
    rw [if_pos (List.prefix_append _ _), if_pos rfl]
    simp
  · rw [if_neg he]
    by_cases hp : x <+: q ++ tailB ps
    · rw [if_pos hp]
      by_cases hle : x.length ≤ q.length
      · have hpq : x <+: q := List.prefix_of_prefix_length_le hp (List.prefix_append _ _) hle
        obtain ⟨z, rfl⟩ := hpq
        have hz : z ≠ [] := fun e => he (by simp [e])
        rw [List.append_assoc, List.drop_left]
        exact mt_stuck xs z _ vs hz (fun hm => hq (List.mem_append_right _ hm))
      · have hqx : q <+: x := List.prefix_of_prefix_length_le (List.prefix_append _ _) hp (by omega)
        obtain ⟨z, rfl⟩ := hqx
        rw [List.prefix_append_right_inj] at hp
        have hz : z ≠ [] := fun e => he (by simp [e])
        obtain ⟨a, t, rfl⟩ := List.exists_cons_of_ne_nil hz
        rcases tailB_sl ps with hb | ⟨r', hb⟩
        · rw [hb] at hp; simp at hp
        · rw [hb, List.cons_prefix_cons] at hp
          exact (hx47 (by simp [hp.1])).elim
    · rw [if_neg hp, if_neg (fun h => hne h.2)]

theorem mt_vars : ∀ (xs : List Bs) (vs : List Bs), (∀ y ∈ xs, kdP y = 1) → mt (tailT xs) [] vs = some (vs ++ xs.map (fun _ => [])) := by
  intro xs
  induction xs with
  | nil => intro vs _; simp [tailT, mt]
  | cons x xs ih =>
    intro vs h
    have hx : tokQ x = [(2, [])] := by rw [tokQ, h x (by simp)]; rfl
    rw [tailT_cons, hx, mt, if_pos rfl, if_neg (by simp), if_pos (by simp), List.singleton_append, mt, if_neg (by simp), if_pos rfl]
    rw [show List.dropWhile (fun x : UInt8 => x != 47) [] = [] from rfl, ih _ (fun y hy => h y (List.mem_cons_of_mem _ hy))]
    simp

theorem mt_tail : ∀ (xs ps out v : List Bs) (is : Bool), TailOk xs → NoSl ps → valP xs ps out = (v, is, true) → mt (tailT xs) (tailB ps) out = if is then some v else none := by
  intro xs
  induction xs with
  | nil =>
    intro ps out v is _ _ h
    simp only [valP, Prod.mk.injEq] at h
    obtain ⟨rfl, rfl, _⟩ := h
    cases ps with
    | nil => simp [tailT, tailB, mt]
    | cons p ps => simp [tailT, tailB_cons, mt]
  | cons x xs ih =>
    intro ps out v is hok hns h
    rcases hok with ⟨hx, hok⟩ | ⟨hx, rfl⟩
    · have hk2 : kdP x ≠ 2 := by rcases hx with ⟨hx, _⟩ | hx; · rw [kd_cst hx]; decide
                                 · rw [kd_vrb hx]; decide
      cases ps with
      | nil =>
        rw [valP_e hk2] at h
        rcases hx with ⟨hx, h0⟩ | hx
        · rw [if_pos (by rw [kd_cst hx]; decide)] at h
          simp only [Prod.mk.injEq] at h
          obtain ⟨rfl, rfl, _⟩ := h
          have hx47 : (47 : UInt8) ∉ x := fun hm => (hx 47 hm).1 rfl
          have hne : x ≠ [47] := fun e => hx47 (by simp [e])
          rw [tailT_cons, tok_cst hx h0, show tailB [] = [] from rfl, mt, if_pos rfl, if_neg (by simp), if_pos (by simp), List.singleton_append, mt, if_pos rfl, if_neg (by simpa using h0), if_neg (fun h => hne h.2)]
          rfl
        · rw [if_neg (by rw [kd_vrb hx]; decide)] at h
          split at h
          · rename_i hall
            simp only [Prod.mk.injEq] at h
            obtain ⟨rfl, rfl, _⟩ := h
            rw [show tailB [] = [] from rfl, mt_vars _ _ hall]
            rfl
          · simp at h
      | cons q ps =>
        rw [valP_c hk2] at h
        have hq : (47 : UInt8) ∉ q := hns q (by simp)
        have hps : NoSl ps := fun p hp => hns p (List.mem_cons_of_mem _ hp)
        have hs : mt (tailT (x :: xs)) (tailB (q :: ps)) out = mt (tokQ x ++ tailT xs) (q ++ tailB ps) out := by
          rw [tailT_cons, tailB_cons, mt, if_pos rfl, if_pos (by simp)]
          rfl
        rw [hs]
        rcases hx with ⟨hx, h0⟩ | hx
        · rw [if_pos (kd_cst hx)] at h
          rw [mt_cst hx h0 hq]
          by_cases he : x = q
          · rw [if_pos he] at h ⊢
            exact ih _ _ _ _ hok hps h
          · rw [if_neg he] at h ⊢
            simp only [Prod.mk.injEq] at h
            rw [← h.2.1]
            rfl
        · rw [if_neg (by rw [kd_vrb hx]; decide)] at h
          split at h
          · simp at h
          · obtain ⟨t1, t2⟩ := takeP q (tailB ps) hq (tailB_sl ps)
            rw [tok_vrb hx, List.singleton_append, mt, if_neg (by simp), if_pos rfl, t1, t2]
            exact ih _ _ _ _ hok hps h
    · rw [valP_r (kd_rst hx)] at h
      simp only [Prod.mk.injEq] at h
      obtain ⟨rfl, rfl, _⟩ := h
      rw [tailT_cons, tok_rst hx]
      cases ps with
      | nil =>
        rw [show tailB [] = [] from rfl, mt, if_pos rfl, if_neg (by simp), if_pos (by simp), List.singleton_append, mt, if_neg (by simp), if_neg (by simp), if_pos rfl]
        simp [tailT, joinB]
      | cons q ps =>
        rw [tailB_cons, mt, if_pos rfl, if_pos (by simp), List.singleton_append, mt, if_neg (by simp), if_neg (by simp), if_pos rfl]
        simp [tailT, joinB_cons]

/-- A pattern's parts: the first one is constant. -/
def toksQ : List Bs → List Tok
  | [] => []
  | x :: xs => tokQ x ++ tailT xs
def PatOk : List Bs → Prop
  | [] => False
  | x :: xs => Cst x ∧ TailOk xs
theorem mt_top {xs ps v : List Bs} {is : Bool} (hok : PatOk xs) (hne : ps ≠ []) (hns : NoSl ps) (h : valP xs ps [] = (v, is, true)) : mt (toksQ xs) (joinB [47] ps) [] = if is then some v else none := by
  cases xs with
  | nil => exact hok.elim
  | cons x xs =>
    obtain ⟨hx, hok⟩ := hok
    obtain ⟨q, ps, rfl⟩ := List.exists_cons_of_ne_nil hne
    have hq : (47 : UInt8) ∉ q := hns q (by simp)
    have hps : NoSl ps := fun p hp => hns p (List.mem_cons_of_mem _ hp)
    rw [valP_c (by rw [kd_cst hx]; decide), if_pos (kd_cst hx)] at h
    rw [toksQ, joinB_cons]
    by_cases h0 : x = []
    · subst h0
      rw [tok_nil, List.nil_append]
      by_cases hq0 : q = []
      · subst hq0
        rw [if_pos rfl] at h
        exact mt_tail _ _ _ _ _ hok hps h
      · rw [if_neg (fun e => hq0 e.symm)] at h
        simp only [Prod.mk.injEq] at h
        rw [← h.2.1, mt_stuck xs q _ _ hq0 hq]
        rfl
    · rw [mt_cst hx h0 hq]
      by_cases he : x = q
      · rw [if_pos he] at h ⊢
        exact mt_tail _ _ _ _ _ hok hps h
      · rw [if_neg he] at h ⊢
        simp only [Prod.mk.injEq] at h
        rw [← h.2.1]
        rfl

/-! ### Which of two patterns goes ahead -/
def ahd : List Bs → List Bs → Bool
  | x :: xs, y :: ys => if kdP x ≠ kdP y then decide (kdP x < kdP y) else ahd xs ys
  | _, _ => false
theorem ahd_trans : ∀ a b c : List Bs, ahd a b = true → ahd b c = true → ahd a c = true := by
  intro a
  induction a with
  | nil => intro b c h; simp [ahd] at h
  | cons x a ih =>
    intro b c h1 h2
    cases b with
    | nil => simp [ahd] at h1
    | cons y b =>
      cases c with
      | nil => simp [ahd] at h2
      | cons z c =>
        unfold ahd at h1 h2 ⊢
        by_cases e1 : kdP x = kdP y
        · by_cases e2 : kdP y = kdP z
          · rw [if_neg (by simpa using e1)] at h1
            rw [if_neg (by simpa using e2)] at h2
            rw [if_neg (by simp [e1, e2])]
            exact ih _ _ h1 h2
          · rw [if_pos (by simpa using e2)] at h2
            rw [if_pos (by rw [e1]; exact e2), e1]
            exact h2
        · rw [if_pos (by simpa using e1)] at h1
          have l1 := of_decide_eq_true h1
          by_cases e2 : kdP y = kdP z
          · rw [← e2, if_pos (by simpa using e1)]
            exact h1
          · rw [if_pos (by simpa using e2)] at h2
            have l2 := of_decide_eq_true h2
            rw [if_pos (by omega)]
            exact decide_eq_true (by omega)

theorem bef_cons {t : Tok} {a b : List Tok} (h : Bef (t :: a) (t :: b)) : Bef a b := by
  cases h with
  | diff h _ => exact absurd rfl h
  | cons h => exact h
theorem bef_nil {a : List Tok} (h : Bef a []) : False := by cases h
theorem bef_kind {t u : Tok} {a b : List Tok} (h : Bef (t :: a) (u :: b)) : ¬ u.1 < t.1 := by
  intro hl
  cases h with
  | diff h1 h2 =>
    apply h2
    have hc : cmpK u.1 t.1 = -1 := by simp [cmpK, hl]
    simp [cmpTok, hc]
  | cons h => omega
theorem tok_kinds {x : Bs} (h : kdP x = 0 → x ≠ []) : ∃ t : Tok, tokQ x = [t] ∧ t.1 = (if kdP x = 0 then 0 else if kdP x = 2 then 3 else 2) := by
  unfold tokQ
  by_cases h0 : kdP x = 0
  · rw [if_pos h0, if_neg (h h0)]
    exact ⟨_, rfl, by rw [if_pos h0]⟩
  · rw [if_neg h0, if_neg h0]
    by_cases h2 : kdP x = 2
    · rw [if_pos h2]; exact ⟨_, rfl, by rw [if_pos h2]⟩
    · rw [if_neg h2]; exact ⟨_, rfl, by rw [if_neg h2]⟩
theorem kd_le (x : Bs) : kdP x ≤ 2 := by unfold kdP; split; · omega
                                         · split <;> omega
theorem bef_tok {x y : Bs} {a b : List Tok} (hx : kdP x = 0 → x ≠ []) (hy : kdP y = 0 → y ≠ []) (h : Bef ((0, [47]) :: (tokQ x ++ a)) ((0, [47]) :: (tokQ y ++ b))) : ¬ kdP y < kdP x := by
  obtain ⟨t, ht, ht1⟩ := tok_kinds hx
  obtain ⟨u, hu, hu1⟩ := tok_kinds hy
  rw [ht, hu] at h
  have hb := bef_kind (bef_cons h)
  have hx2 := kd_le x
  have hy2 := kd_le y
  intro hl
  rw [ht1, hu1] at hb
  apply hb
  by_cases x0 : kdP x = 0
  · omega
  · rw [if_neg x0]
    by_cases x2 : kdP x = 2
    · rw [if_pos x2]
      by_cases y0 : kdP y = 0
      · rw [if_pos y0]; omega
      · rw [if_neg y0, if_neg (by omega)]; omega
    · rw [if_neg x2, if_pos (by omega)]; omega
theorem tail_ne {x : Bs} {xs : List Bs} (h : TailOk (x :: xs)) : (kdP x = 0 → x ≠ []) ∧ TailOk xs ∧ (kdP x = 0 → Cst x) ∧ (kdP x = 2 → xs = []) ∧ (kdP x = 1 → Vrb x) := by
  rcases h with ⟨⟨hx, h0⟩ | hx, hok⟩ | ⟨hx, rfl⟩
  · have := kd_cst hx
    exact ⟨fun _ => h0, hok, fun _ => hx, fun e => by omega, fun e => by omega⟩
  · have := kd_vrb hx
    exact ⟨fun e => by omega, hok, fun e => by omega, fun e => by omega, fun _ => hx⟩
  · have := kd_rst hx
    exact ⟨fun e => by omega, trivial, fun e => by omega, fun _ => rfl, fun e => by omega⟩

/-- Two patterns that a path matches with no variable void: they are the same, or one goes ahead. -/
theorem ahd_tail : ∀ (xs ys ps o o' v v' : List Bs), TailOk xs → TailOk ys → valP xs ps o = (v, true, true) → valP ys ps o' = (v', true, true) → [] ∉ v → [] ∉ v' →
    tailT xs = tailT ys ∨ (ahd xs ys = true ∧ ¬ Bef (tailT ys) (tailT xs)) ∨ (ahd ys xs = true ∧ ¬ Bef (tailT xs) (tailT ys)) := by
  have hend : ∀ (xs o v : List Bs), TailOk xs → valP xs [] o = (v, true, true) → [] ∉ v → xs = [] := by
    intro xs o v hok h hv
    cases xs with
    | nil => rfl
    | cons x xs =>
      by_cases k2 : kdP x = 2
      · rw [valP_r k2] at h
        simp only [Prod.mk.injEq] at h
        obtain ⟨rfl, _⟩ := h
        exact (hv (by simp [joinB])).elim
      · rw [valP_e k2] at h
        split at h
        · simp at h
        · split at h
          · simp only [Prod.mk.injEq] at h
            obtain ⟨rfl, _⟩ := h
            exact (hv (by simp)).elim
          · simp at h
  intro xs
  induction xs with
  | nil =>
    intro ys ps o o' v v' hx hy h h' hv hv'
    simp only [valP, Prod.mk.injEq] at h
    have hps : ps = [] := by simpa using h.2.1
    subst hps
    have := hend ys o' v' hy h' hv'
    subst this
    exact .inl rfl
  | cons x xs ih =>
    intro ys ps o o' v v' hx hy h h' hv hv'
    cases ps with
    | nil => exact absurd (hend _ o v hx h hv) (by simp)
    | cons q ps =>
      cases ys with
      | nil => simp [valP] at h'
      | cons y ys =>
        obtain ⟨x1, x2, x3, x4, x5⟩ := tail_ne hx
        obtain ⟨y1, y2, y3, y4, y5⟩ := tail_ne hy
        by_cases hk : kdP x = kdP y
        · have hah : ahd (x :: xs) (y :: ys) = ahd xs ys := by rw [ahd, if_neg (by simpa using hk)]
          have hah' : ahd (y :: ys) (x :: xs) = ahd ys xs := by rw [ahd, if_neg (by simpa using hk.symm)]
          have lift : tokQ x = tokQ y → (tailT xs = tailT ys ∨ (ahd xs ys = true ∧ ¬ Bef (tailT ys) (tailT xs)) ∨ (ahd ys xs = true ∧ ¬ Bef (tailT xs) (tailT ys))) → tailT (x :: xs) = tailT (y :: ys) ∨ (ahd (x :: xs) (y :: ys) = true ∧ ¬ Bef (tailT (y :: ys)) (tailT (x :: xs))) ∨ (ahd (y :: ys) (x :: xs) = true ∧ ¬ Bef (tailT (x :: xs)) (tailT (y :: ys))) := by
            intro ht hr
            obtain ⟨t, htx, _⟩ := tok_kinds x1
            rw [hah, hah', tailT_cons, tailT_cons, ← ht, htx]
            rcases hr with hr | ⟨h1, h2⟩ | ⟨h1, h2⟩
            · exact .inl (by rw [hr])
            · exact .inr (.inl ⟨h1, fun hb => h2 (bef_cons (bef_cons hb))⟩)
            · exact .inr (.inr ⟨h1, fun hb => h2 (bef_cons (bef_cons hb))⟩)
          by_cases k2 : kdP x = 2
          · have e1 := x4 k2
            have e2 := y4 (hk.symm.trans k2)
            subst e1 e2
            exact lift (by rw [tokQ, tokQ, ← hk, k2]; rfl) (.inl rfl)
          · rw [valP_c k2] at h
            rw [valP_c (fun e => k2 (hk.trans e))] at h'
            by_cases k0 : kdP x = 0
            · rw [if_pos k0] at h
              rw [if_pos (hk.symm.trans k0)] at h'
              split at h
              · split at h'
                · rename_i e1 e2
                  refine lift (by rw [e1, e2]) (ih ys ps o o' v v' x2 y2 h h' hv hv')
                · simp at h'
              · simp at h
            · rw [if_neg k0] at h
              rw [if_neg (fun e => k0 (hk.trans e))] at h'
              split at h
              · simp at h
              · split at h'
                · simp at h'
                · refine lift ?_ (ih ys ps _ _ v v' x2 y2 h h' hv hv')
                  rw [tokQ, tokQ, if_neg k0, if_neg k2, if_neg (fun e => k0 (hk.trans e)), if_neg (fun e => k2 (hk.trans e))]
        · rcases Nat.lt_or_gt_of_ne hk with hl | hl
          · refine .inr (.inl ⟨?_, fun hb => ?_⟩)
            · rw [ahd, if_pos (by simpa using hk)]; exact decide_eq_true hl
            · rw [tailT_cons, tailT_cons] at hb
              exact bef_tok y1 x1 hb hl
          · refine .inr (.inr ⟨?_, fun hb => ?_⟩)
            · rw [ahd, if_pos (by simpa using fun e => hk e.symm)]; exact decide_eq_true hl
            · rw [tailT_cons, tailT_cons] at hb
              exact bef_tok x1 y1 hb hl

/-- A pattern that is the path itself: no other one that the path matches comes first. -/
theorem bef_exact : ∀ (xs ys o v : List Bs), TailOk xs → TailOk ys → (∀ y ∈ ys, kdP y = 0) → valP xs ys o = (v, true, true) → ¬ Bef (tailT xs) (tailT ys) := by
  intro xs
  induction xs with
  | nil =>
    intro ys o v hx hy hc h hb
    simp only [valP, Prod.mk.injEq] at h
    have : ys = [] := by simpa using h.2.1
    subst this
    exact bef_nil hb
  | cons x xs ih =>
    intro ys o v hx hy hc h hb
    cases ys with
    | nil => exact bef_nil hb
    | cons y ys =>
      obtain ⟨x1, x2, x3, x4, x5⟩ := tail_ne hx
      obtain ⟨y1, y2, y3, y4, y5⟩ := tail_ne hy
      have hky := hc y (by simp)
      rw [tailT_cons, tailT_cons] at hb
      have hle := bef_tok x1 y1 hb
      have hkx : kdP x = 0 := by omega
      rw [valP_c (by omega), if_pos hkx] at h
      split at h
      · rename_i e
        subst e
        obtain ⟨t, ht, _⟩ := tok_kinds x1
        rw [ht] at hb
        exact ih ys o v x2 y2 (fun y hy => hc y (List.mem_cons_of_mem _ hy)) h (bef_cons (bef_cons hb))
      · simp at h
/-! ### Parts -/
theorem splitB_no (y : UInt8) : ∀ (l seg : Bs), y ∉ seg → ∀ x ∈ splitB y seg l, y ∉ x
  | [], seg, h => by simpa [splitB] using h
  | c :: r, seg, h => by
    rw [splitB]
    split
    · intro x hx
      rcases List.mem_cons.1 hx with rfl | hx
      · exact h
      · exact splitB_no y r [] (by simp) x hx
    · rename_i hc
      exact splitB_no y r (seg ++ [c]) (by simp [h]; exact fun e => hc e.symm)
theorem splitB_join (y : UInt8) : ∀ (l seg : Bs), ∃ a r, splitB y seg l = a :: r ∧ a ++ r.flatMap (fun x => y :: x) = seg ++ l
  | [], seg => ⟨seg, [], by simp [splitB], by simp⟩
  | c :: r, seg => by
    rw [splitB]
    split
    · rename_i hc
      subst hc
      obtain ⟨a, t, h1, h2⟩ := splitB_join c r []
      refine ⟨seg, splitB c [] r, rfl, ?_⟩
      rw [h1]
      simp at h2
      simp [h2]
    · obtain ⟨a, t, h1, h2⟩ := splitB_join y r (seg ++ [c])
      exact ⟨a, t, h1, by simpa using h2⟩
theorem joinB_splitB (l : Bs) : joinB [47] (splitB 47 [] l) = l := by
  obtain ⟨a, r, h1, h2⟩ := splitB_join 47 l []
  rw [h1]
  simpa [joinB] using h2
theorem splitB_seg (x r : Bs) : ∀ (seg : Bs), (47 : UInt8) ∉ x → splitB 47 seg (x ++ r) = splitB 47 (seg ++ x) r := by
  induction x with
  | nil => intro seg _; simp
  | cons a t ih =>
    intro seg h
    rw [List.cons_append, splitB, if_neg (fun e => h (by simp [e])), ih _ (fun hm => h (List.mem_cons_of_mem _ hm))]
    simp
theorem splitB_tail : ∀ (xs : List Bs) (seg : Bs), NoSl xs → splitB 47 seg (tailB xs) = seg :: xs
  | [], seg, _ => by simp [tailB, splitB]
  | x :: xs, seg, h => by
    rw [tailB_cons, splitB, if_pos rfl, splitB_seg x _ [] (h x (by simp)), List.nil_append, splitB_tail xs x (fun p hp => h p (List.mem_cons_of_mem _ hp))]
theorem splitB_joinB {xs : List Bs} (h : NoSl xs) (hne : xs ≠ []) : splitB 47 [] (joinB [47] xs) = xs := by
  obtain ⟨x, r, rfl⟩ := List.exists_cons_of_ne_nil hne
  rw [joinB_cons, splitB_seg x _ [] (h x (by simp)), List.nil_append, splitB_tail r x (fun p hp => h p (List.mem_cons_of_mem _ hp))]

/-- A text without one slash at its end. -/
def strip1 (s : Bs) : Bs := if s.getLast? = some 47 then s.dropLast else s
def partsOf (s : Bs) : List Bs := splitB 47 [] (strip1 s)
theorem partsOf_ne (s : Bs) : partsOf s ≠ [] := by
  obtain ⟨a, r, h1, _⟩ := splitB_join 47 (strip1 s) []
  unfold partsOf
  rw [h1]
  simp
theorem partsOf_no (s : Bs) : NoSl (partsOf s) := splitB_no 47 _ [] (by simp)
theorem join_parts (s : Bs) : joinB [47] (partsOf s) = strip1 s := joinB_splitB _

theorem strip1_other {s : Bs} (h : s.getLast? ≠ some 47) : strip1 s = s := by rw [strip1, if_neg h]
theorem last_suffix {s : Bs} {b : UInt8} : s.getLast? = some b ↔ ∃ r, s = r ++ [b] := by
  constructor
  · intro h
    obtain ⟨r, hr⟩ := List.getLast?_eq_some_iff.1 h
    exact ⟨r, hr⟩
  · rintro ⟨r, rfl⟩
    simp
theorem stripAll_strip1 {s : Bs} (h : ∀ r, s ≠ r ++ [47, 47]) : stripAll s = strip1 s := by
  unfold strip1
  split
  · rename_i hl
    obtain ⟨r, rfl⟩ := last_suffix.1 hl
    rw [stripAll_snoc, List.dropLast_concat]
    apply stripAll_other
    rintro ⟨z, hz⟩
    exact h z (by rw [← hz]; simp)
  · rename_i hl
    apply stripAll_other
    rintro ⟨z, hz⟩
    exact hl (last_suffix.2 ⟨z, hz.symm⟩)

/-! ### What pieces leaves -/
/-- A prefix that pieces has passed: its last part is constant (0), a variable (1), one for all the rest (2). -/
def PS (p : Bs) (f : Nat) : Prop := ∃ (i : List Bs) (x : Bs), p = joinB [47] (i ++ [x]) ∧ (∀ z ∈ i, Cst z ∨ Vrb z) ∧ (∀ z, i.head? = some z → Cst z) ∧ ((f = 0 ∧ Cst x) ∨ (f = 1 ∧ Vrb x ∧ i ≠ []) ∨ (f = 2 ∧ Rst x ∧ i ≠ []))
theorem cst_nil : Cst [] := by intro b hb; cases hb
theorem PS_nil : PS [] 0 := ⟨[], [], rfl, by simp, by simp, .inl ⟨rfl, cst_nil⟩⟩
theorem joinB_app (i : List Bs) (x z : Bs) : joinB [47] (i ++ [x]) ++ z = joinB [47] (i ++ [x ++ z]) := by
  cases i with
  | nil => simp [joinB]
  | cons a r => simp [joinB]
theorem PS_slash {p : Bs} {f : Nat} (h : PS p f) (hf : f ≠ 2) : PS (p ++ [47]) 0 := by
  obtain ⟨i, x, rfl, h1, h2, h3⟩ := h
  refine ⟨i ++ [x], [], ?_, ?_, ?_, .inl ⟨rfl, cst_nil⟩⟩
  · rw [joinB_snoc [47] (i ++ [x]) [] (by simp)]; simp
  · intro z hz
    rcases List.mem_append.1 hz with hz | hz
    · exact h1 z hz
    · rw [List.mem_singleton.1 hz]
      rcases h3 with ⟨_, h⟩ | ⟨_, h, _⟩ | ⟨h, _⟩
      · exact .inl h
      · exact .inr h
      · exact absurd h hf
  · intro z hz
    cases i with
    | nil =>
      simp at hz
      subst hz
      rcases h3 with ⟨_, h⟩ | ⟨_, _, h⟩ | ⟨_, _, h⟩
      · exact h
      · exact absurd rfl h
      · exact absurd rfl h
    | cons a r => exact h2 z (by simpa using hz)
theorem PS_other {p : Bs} {b : UInt8} (h : PS p 0) (h47 : b ≠ 47) (h123 : b ≠ 123) (h125 : b ≠ 125) : PS (p ++ [b]) 0 := by
  obtain ⟨i, x, rfl, h1, h2, h3⟩ := h
  have hx : Cst x := by rcases h3 with ⟨_, h⟩ | ⟨h, _⟩ | ⟨h, _⟩ <;> first | exact h | cases h
  refine ⟨i, x ++ [b], joinB_app _ _ _, h1, h2, .inl ⟨rfl, ?_⟩⟩
  intro c hc
  rcases List.mem_append.1 hc with hc | hc
  · exact hx c hc
  · rw [List.mem_singleton.1 hc]; exact ⟨h47, h123, h125⟩
theorem PS_open {p : Bs} (h : PS p 0) (hl : p.getLast? = some 47) : ∃ i : List Bs, i ≠ [] ∧ p = joinB [47] (i ++ [[]]) ∧ (∀ z ∈ i, Cst z ∨ Vrb z) ∧ (∀ z, i.head? = some z → Cst z) := by
  obtain ⟨i, x, rfl, h1, h2, h3⟩ := h
  have hx : Cst x := by rcases h3 with ⟨_, h⟩ | ⟨h, _⟩ | ⟨h, _⟩ <;> first | exact h | cases h
  have h0 : x = [] := by
    cases hr : x.reverse with
    | nil => simpa using hr
    | cons b r =>
      have hxe : x = r.reverse ++ [b] := by rw [← List.reverse_reverse x, hr]; simp
      rw [hxe, ← joinB_app] at hl
      simp at hl
      exact ((hx b (by rw [hxe]; simp)).1 hl).elim
  subst h0
  refine ⟨i, ?_, rfl, h1, h2⟩
  rintro rfl
  simp [joinB] at hl
theorem PS_var {p nm : Bs} (h : PS p 0) (hl : p.getLast? = some 47) (h0 : nm ≠ []) (hw : ∀ b ∈ nm, wordB b) : PS (p ++ 123 :: (nm ++ [125])) 1 := by
  obtain ⟨i, hi, rfl, h1, h2⟩ := PS_open h hl
  exact ⟨i, 123 :: (nm ++ [125]), by rw [joinB_app]; simp, h1, h2, .inr (.inl ⟨rfl, ⟨nm, h0, hw, rfl⟩, hi⟩)⟩
theorem PS_rest {p nm : Bs} (h : PS p 0) (hl : p.getLast? = some 47) (h0 : nm ≠ []) (hw : ∀ b ∈ nm, wordB b) : PS (p ++ 123 :: (nm ++ [42, 125])) 2 := by
  obtain ⟨i, hi, rfl, h1, h2⟩ := PS_open h hl
  exact ⟨i, 123 :: (nm ++ [42, 125]), by rw [joinB_app]; simp, h1, h2, .inr (.inr ⟨rfl, ⟨nm, h0, hw, rfl⟩, hi⟩)⟩

theorem cst_no {x : Bs} (h : Cst x) : (47 : UInt8) ∉ x := fun hm => (h 47 hm).1 rfl
theorem vrb_no {x : Bs} (h : Vrb x) : (47 : UInt8) ∉ x := by
  obtain ⟨nm, _, hw, rfl⟩ := h
  intro hm
  simp at hm
  exact (word_ne (hw 47 hm)).2.1 rfl
theorem rst_no {x : Bs} (h : Rst x) : (47 : UInt8) ∉ x := by
  obtain ⟨nm, _, hw, rfl⟩ := h
  intro hm
  simp at hm
  exact (word_ne (hw 47 hm)).2.1 rfl
theorem tail_nosl : ∀ (xs : List Bs), TailOk xs → NoSl xs
  | [], _ => by intro p hp; cases hp
  | x :: xs, h => by
    intro p hp
    rcases h with ⟨hx, hok⟩ | ⟨hx, rfl⟩
    · rcases List.mem_cons.1 hp with rfl | hp
      · rcases hx with ⟨hx, _⟩ | hx
        · exact cst_no hx
        · exact vrb_no hx
      · exact tail_nosl xs hok p hp
    · rw [List.mem_singleton.1 hp]
      exact rst_no hx
theorem tail_snoc : ∀ (zs : List Bs) (x : Bs), (∀ z ∈ zs, (Cst z ∧ z ≠ []) ∨ Vrb z) → TailOk [x] → TailOk (zs ++ [x])
  | [], x, _, h => h
  | z :: zs, x, h, hx => .inl ⟨h z (by simp), tail_snoc zs x (fun w hw => h w (List.mem_cons_of_mem _ hw)) hx⟩

/-- A pattern that pieces lets by, that has no empty part within and no slash at its end, has good parts. -/
theorem good_parts {s : Bs} {f : Nat} (h : PS s f) (hh : ¬ [47, 47] <:+: s) (ht : s.length ≤ 1 ∨ s.getLast? ≠ some 47) : PatOk (partsOf s) ∧ stripAll s = strip1 s := by
  obtain ⟨i, x, rfl, h1, h2, h3⟩ := h
  cases i with
  | nil =>
    have hx : Cst x := by
      rcases h3 with ⟨_, h⟩ | ⟨_, _, h⟩ | ⟨_, _, h⟩
      · exact h
      · exact absurd rfl h
      · exact absurd rfl h
    have he : joinB [47] ([] ++ [x]) = x := by simp [joinB]
    rw [he] at hh ht ⊢
    have hl : x.getLast? ≠ some 47 := by
      intro e
      obtain ⟨r, rfl⟩ := last_suffix.1 e
      exact cst_no hx (by simp)
    refine ⟨?_, ?_⟩
    · unfold partsOf
      rw [strip1_other hl]
      have := splitB_joinB (xs := [x]) (by intro p hp; rw [List.mem_singleton.1 hp]; exact cst_no hx) (by simp)
      rw [show joinB [47] [x] = x from by simp [joinB]] at this
      rw [this]
      exact ⟨hx, trivial⟩
    · apply stripAll_strip1
      rintro r rfl
      exact cst_no hx (by simp)
  | cons z zs =>
    have hz : Cst z := h2 z rfl
    have hs2 : ∀ r, joinB [47] (z :: zs ++ [x]) ≠ r ++ [47, 47] := fun r e => hh (by rw [e]; exact ⟨r, [], by simp⟩)
    refine ⟨?_, stripAll_strip1 hs2⟩
    by_cases hx0 : x = []
    · subst hx0
      have he : joinB [47] (z :: zs ++ [[]]) = joinB [47] (z :: zs) ++ [47] := by
        rw [joinB_snoc [47] (z :: zs) [] (by simp)]; simp
      rw [he] at ht ⊢
      have hle : (joinB [47] (z :: zs) ++ [47]).length ≤ 1 := by
        rcases ht with ht | ht
        · exact ht
        · exact absurd (by simp) ht
      have h0 : joinB [47] (z :: zs) = [] := by
        apply List.eq_nil_of_length_eq_zero
        simpa using hle
      rw [h0]
      exact ⟨cst_nil, trivial⟩
    · have hx' : TailOk [x] := by
        rcases h3 with ⟨_, h⟩ | ⟨_, h, _⟩ | ⟨_, h, _⟩
        · exact .inl ⟨.inl ⟨h, hx0⟩, trivial⟩
        · exact .inl ⟨.inr h, trivial⟩
        · exact .inr ⟨h, rfl⟩
      have hzs : ∀ w ∈ zs, (Cst w ∧ w ≠ []) ∨ Vrb w := by
        intro w hw
        rcases h1 w (List.mem_cons_of_mem _ hw) with hc | hv
        · refine .inl ⟨hc, fun hw0 => ?_⟩
          subst hw0
          obtain ⟨a, b, rfl⟩ := List.append_of_mem hw
          apply hh
          have e : joinB [47] (z :: (a ++ [] :: b) ++ [x]) = z ++ tailB a ++ [47] ++ tailB (b ++ [x]) := by
            rw [List.cons_append, joinB_cons]
            simp [tailB]
          rw [e]
          obtain ⟨r', hr'⟩ : ∃ r', tailB (b ++ [x]) = 47 :: r' := by
            cases b with
            | nil => exact ⟨_, rfl⟩
            | cons c b => exact ⟨_, rfl⟩
          rw [hr']
          exact ⟨z ++ tailB a, r', by simp⟩
        · exact .inr hv
      have htail := tail_snoc zs x hzs hx'
      have hl : (joinB [47] (z :: zs ++ [x])).getLast? ≠ some 47 := by
        intro e
        cases hr : x.reverse with
        | nil => exact hx0 (by simpa using hr)
        | cons b r =>
          have hxe : x = r.reverse ++ [b] := by rw [← List.reverse_reverse x, hr]; simp
          have hno : (47 : UInt8) ∉ x := tail_nosl [x] hx' x (by simp)
          rw [hxe, ← joinB_app] at e
          simp at e
          exact hno (by rw [hxe]; simp [e])
      unfold partsOf
      rw [strip1_other hl, splitB_joinB]
      · exact ⟨hz, htail⟩
      · intro p hp
        rcases List.mem_cons.1 hp with rfl | hp
        · exact cst_no hz
        · exact tail_nosl _ htail p hp
      · simp

/-! ### The program's tokens of such a pattern -/
theorem kindN2 {nm : Bs} (h : ∀ b ∈ nm, wordB b) : kindOfName nm = 2 := by
  unfold kindOfName
  rw [if_neg]
  rintro ⟨z, hz⟩
  exact (word_ne (h 42 (by rw [← hz]; simp))).1 rfl
theorem kindN3 (nm : Bs) : kindOfName (nm ++ [42]) = 3 := by
  unfold kindOfName
  rw [if_pos (List.suffix_append _ _)]
theorem word_name {b : UInt8} (h : wordB b) : nameB b := by
  refine ⟨?_, ?_, (word_ne h).2.2.2⟩ <;> (unfold wordB at h; omega)
theorem toks_cst {x r : Bs} {ts : List Tok} {ns : List Bs} (hx : Cst x) (ha : ∀ b ∈ x, b.toNat < 128) (hr : r = [] ∨ ∃ r', r = 47 :: r') (h : Toks r ts ns) : Toks (x ++ r) (tokQ x ++ ts) ns := by
  by_cases h0 : x = []
  · subst h0; rw [tok_nil]; exact h
  · rw [tok_cst hx h0]
    exact .const h0 (fun b hb => ⟨ha b hb, (hx b hb).1, (hx b hb).2.1⟩) hr h
theorem toks_tail : ∀ (xs : List Bs), TailOk xs → (∀ x ∈ xs, ∀ b ∈ x, b.toNat < 128) → ∃ ns, Toks (tailB xs) (tailT xs) ns
  | [], _, _ => ⟨[], .nil⟩
  | x :: xs, h, ha => by
    have hax := ha x (by simp)
    rcases h with ⟨hx, hok⟩ | ⟨hx, rfl⟩
    · obtain ⟨ns, hT⟩ := toks_tail xs hok (fun y hy => ha y (List.mem_cons_of_mem _ hy))
      rcases hx with ⟨hx, h0⟩ | hx
      · exact ⟨ns, .slash (toks_cst hx hax (tailB_sl xs) hT)⟩
      · rw [tailT_cons, tailB_cons, tok_vrb hx]
        obtain ⟨nm, _, hw, rfl⟩ := hx
        refine ⟨nm :: ns, .slash ?_⟩
        have := Toks.var (nm := nm) (fun b hb => word_name (hw b hb)) hT
        rw [kindN2 hw] at this
        simpa using this
    · rw [tailT_cons, tailB_cons, tok_rst hx]
      obtain ⟨nm, _, hw, rfl⟩ := hx
      refine ⟨[nm ++ [42]], .slash ?_⟩
      have := Toks.var (nm := nm ++ [42]) (r := []) (ts := []) (ns := []) (by
        intro b hb
        rcases List.mem_append.1 hb with hb | hb
        · exact word_name (hw b hb)
        · rw [List.mem_singleton.1 hb]; exact ⟨by decide, by decide, by decide⟩) .nil
      rw [kindN3] at this
      simpa [tailB, tailT] using this
theorem mem_splitB (y : UInt8) : ∀ (l seg : Bs) (x : Bs), x ∈ splitB y seg l → ∀ b ∈ x, b ∈ seg ∨ b ∈ l
  | [], seg, x, h, b, hb => by simp [splitB] at h; subst h; exact .inl hb
  | c :: r, seg, x, h, b, hb => by
    rw [splitB] at h
    split at h
    · rcases List.mem_cons.1 h with rfl | h
      · exact .inl hb
      · rcases mem_splitB y r [] x h b hb with h | h
        · cases h
        · exact .inr (List.mem_cons_of_mem _ h)
    · rcases mem_splitB y r (seg ++ [c]) x h b hb with h | h
      · rcases List.mem_append.1 h with h | h
        · exact .inl h
        · rw [List.mem_singleton.1 h]; exact .inr (by simp)
      · exact .inr (List.mem_cons_of_mem _ h)
theorem mem_strip1 {s : Bs} {b : UInt8} (h : b ∈ strip1 s) : b ∈ s := by
  unfold strip1 at h
  split at h
  · exact List.dropLast_subset _ h
  · exact h
theorem mem_parts {s x : Bs} (h : x ∈ partsOf s) {b : UInt8} (hb : b ∈ x) : b ∈ s := by
  rcases mem_splitB 47 _ [] x h b hb with h | h
  · cases h
  · exact mem_strip1 h
theorem toks_parts {s : Bs} (h : PatOk (partsOf s)) (ha : ∀ b ∈ s, b.toNat < 128) : ∃ ns, Toks (strip1 s) (toksQ (partsOf s)) ns := by
  rw [← join_parts]
  have ha' : ∀ x ∈ partsOf s, ∀ b ∈ x, b.toNat < 128 := fun x hx b hb => ha b (mem_parts hx hb)
  generalize partsOf s = xs at h ha'
  cases xs with
  | nil => exact h.elim
  | cons x xs =>
    obtain ⟨ns, hT⟩ := toks_tail xs h.2 (fun y hy => ha' y (List.mem_cons_of_mem _ hy))
    exact ⟨ns, toks_cst h.1 (ha' x (by simp)) (tailB_sl xs) hT⟩

/-! ### Two patterns that are equal but for names -/
def ppB : Bool → Bs → Bs
  | _, [] => []
  | w, c :: r => if c = 123 then 123 :: ppB true r else if c = 125 then 125 :: ppB false r else if w = false ∨ c = 42 then c :: ppB w r else ppB w r
def ppT (t : Tok) : Bs := if t.1 = 0 then t.2 else if t.1 = 2 then [123, 125] else [123, 42, 125]
theorem pp_cst (x r : Bs) (h : ∀ b ∈ x, b ≠ 123 ∧ b ≠ 125) : ppB false (x ++ r) = x ++ ppB false r := by
  induction x with
  | nil => rfl
  | cons a t ih =>
    have ha := h a (by simp)
    rw [List.cons_append, ppB, if_neg ha.1, if_neg ha.2, if_pos (.inl rfl), ih (fun b hb => h b (List.mem_cons_of_mem _ hb))]
    rfl
theorem pp_name (nm r : Bs) (h : ∀ b ∈ nm, wordB b) : ppB true (nm ++ r) = ppB true r := by
  induction nm with
  | nil => rfl
  | cons a t ih =>
    have ha := word_ne (h a (by simp))
    rw [List.cons_append, ppB, if_neg ha.2.2.1, if_neg ha.2.2.2, if_neg (by simp [ha.1]), ih (fun b hb => h b (List.mem_cons_of_mem _ hb))]
theorem pp_part {x : Bs} (h : (Cst x ∧ x ≠ []) ∨ Vrb x ∨ Rst x) (r : Bs) : ppB false (x ++ r) = (tokQ x).flatMap ppT ++ ppB false r := by
  rcases h with ⟨hx, h0⟩ | hx | hx
  · rw [tok_cst hx h0, pp_cst x r (fun b hb => (hx b hb).2)]
    simp [ppT]
  · rw [tok_vrb hx]
    obtain ⟨nm, _, hw, rfl⟩ := hx
    rw [List.cons_append, ppB, if_pos rfl, List.append_assoc, pp_name nm _ hw, List.singleton_append, ppB, if_neg (by decide), if_pos rfl]
    simp [ppT]
  · rw [tok_rst hx]
    obtain ⟨nm, _, hw, rfl⟩ := hx
    rw [List.cons_append, ppB, if_pos rfl, List.append_assoc, pp_name nm _ hw]
    simp [ppB, ppT]
theorem pp_tail : ∀ xs : List Bs, TailOk xs → ppB false (tailB xs) = (tailT xs).flatMap ppT
  | [], _ => rfl
  | x :: xs, h => by
    have h1 : (Cst x ∧ x ≠ []) ∨ Vrb x ∨ Rst x := by
      rcases h with ⟨hx | hx, _⟩ | ⟨hx, _⟩
      · exact .inl hx
      · exact .inr (.inl hx)
      · exact .inr (.inr hx)
    rw [tailB_cons, tailT_cons, ppB, if_neg (by decide), if_neg (by decide), if_pos (.inl rfl), pp_part h1, pp_tail xs (tail_ne h).2.1]
    simp [ppT]
theorem pp_parts {s : Bs} (h : PatOk (partsOf s)) : ppB false (strip1 s) = (toksQ (partsOf s)).flatMap ppT := by
  rw [← join_parts]
  generalize partsOf s = xs at h
  cases xs with
  | nil => exact h.elim
  | cons x xs =>
    rw [joinB_cons, toksQ]
    by_cases h0 : x = []
    · subst h0
      rw [tok_nil, List.nil_append, List.nil_append, pp_tail xs h.2]
    · rw [pp_part (.inl ⟨h.1, h0⟩), pp_tail xs h.2, List.flatMap_append]

/-! ### Match, round by round -/
structure MSt where
  key : Bs
  vals : List Bs
  void : Bool
  hits : Nat
abbrev Don := Bs × List Bs × Bool
def stepM (st : MSt) (d : Don) : MSt :=
  if d.2.2 = false then st
  else
    let void := st.void || decide ([] ∈ d.2.1)
    if st.hits = 0 ∨ ahd (partsOf d.1) (partsOf st.key) = true then ⟨d.1, d.2.1, void, st.hits + 1⟩ else ⟨st.key, st.vals, void, st.hits + 1⟩
def foldM (D : List Don) : MSt := D.foldl stepM ⟨[], [], false, 0⟩
theorem foldM_snoc (D : List Don) (d : Don) : foldM (D ++ [d]) = stepM (foldM D) d := by simp [foldM]

def DonOk (path : Bs) (d : Don) : Prop := PatOk (partsOf d.1) ∧ valP (partsOf d.1) (partsOf path) [] = (d.2.1, d.2.2, true)
def tk (d : Don) : List Tok := toksQ (partsOf d.1)

theorem top_tails {xs ys ps v v' : List Bs} (hx : PatOk xs) (hy : PatOk ys) (h : valP xs ps [] = (v, true, true)) (h' : valP ys ps [] = (v', true, true)) : ∃ x xs' ys' ps', xs = x :: xs' ∧ ys = x :: ys' ∧ ps = x :: ps' ∧ Cst x ∧ TailOk xs' ∧ TailOk ys' ∧ valP xs' ps' [] = (v, true, true) ∧ valP ys' ps' [] = (v', true, true) := by
  cases xs with
  | nil => exact hx.elim
  | cons x xs =>
    cases ys with
    | nil => exact hy.elim
    | cons y ys =>
      cases ps with
      | nil =>
        rw [valP_e (by rw [kd_cst hx.1]; decide), if_pos (by rw [kd_cst hx.1]; decide)] at h
        simp at h
      | cons q ps =>
        rw [valP_c (by rw [kd_cst hx.1]; decide), if_pos (kd_cst hx.1)] at h
        rw [valP_c (by rw [kd_cst hy.1]; decide), if_pos (kd_cst hy.1)] at h'
        split at h
        · rename_i e1
          split at h'
          · rename_i e2
            subst e1 e2
            exact ⟨_, _, _, _, rfl, rfl, rfl, hx.1, hx.2, hy.2, h, h'⟩
          · simp at h'
        · simp at h
theorem bef_app : ∀ (c a b : List Tok), Bef (c ++ a) (c ++ b) → Bef a b
  | [], a, b, h => h
  | t :: c, a, b, h => bef_app c a b (bef_cons h)
theorem ahd_top {xs ys ps v v' : List Bs} (hx : PatOk xs) (hy : PatOk ys) (h : valP xs ps [] = (v, true, true)) (h' : valP ys ps [] = (v', true, true)) (hv : [] ∉ v) (hv' : [] ∉ v') :
    toksQ xs = toksQ ys ∨ (ahd xs ys = true ∧ ¬ Bef (toksQ ys) (toksQ xs)) ∨ (ahd ys xs = true ∧ ¬ Bef (toksQ xs) (toksQ ys)) := by
  obtain ⟨x, xs', ys', ps', rfl, rfl, rfl, hc, hx', hy', g, g'⟩ := top_tails hx hy h h'
  have a1 : ∀ p q : List Bs, ahd (x :: p) (x :: q) = ahd p q := fun p q => by rw [ahd, if_neg (by simp)]
  rw [toksQ, toksQ, a1, a1]
  rcases ahd_tail xs' ys' ps' [] [] v v' hx' hy' g g' hv hv' with h | ⟨h1, h2⟩ | ⟨h1, h2⟩
  · exact .inl (by rw [h])
  · exact .inr (.inl ⟨h1, fun hb => h2 (bef_app _ _ _ hb)⟩)
  · exact .inr (.inr ⟨h1, fun hb => h2 (bef_app _ _ _ hb)⟩)
theorem exact_top {xs ps v : List Bs} (hx : PatOk xs) (hp : PatOk ps) (hc : ∀ y ∈ ps, kdP y = 0) (h : valP xs ps [] = (v, true, true)) : ¬ Bef (toksQ xs) (toksQ ps) := by
  cases xs with
  | nil => exact hx.elim
  | cons x xs =>
    cases ps with
    | nil => exact hp.elim
    | cons q ps =>
      rw [valP_c (by rw [kd_cst hx.1]; decide), if_pos (kd_cst hx.1)] at h
      split at h
      · rename_i e
        subst e
        intro hb
        exact bef_exact xs ps [] v hx.2 hp.2 (fun y hy => hc y (List.mem_cons_of_mem _ hy)) h (bef_app _ _ _ hb)
      · simp at h

/-- What stands behind the rounds over D. -/
structure FInv (path : Bs) (D : List Don) (st : MSt) : Prop where
  none : st.hits = 0 → ∀ d ∈ D, d.2.2 = false
  void : st.void = false → ∀ d ∈ D, d.2.2 = true → [] ∉ d.2.1
  best : st.hits ≠ 0 → ∃ d ∈ D, d.2.2 = true ∧ d.1 = st.key ∧ d.2.1 = st.vals ∧ (st.hits = 1 → ∀ e ∈ D, e.2.2 = true → e = d) ∧ (st.void = false → ∀ e ∈ D, e.2.2 = true → e = d ∨ ahd (partsOf d.1) (partsOf e.1) = true)
theorem fold_inv {path : Bs} : ∀ (D : List Don), (∀ d ∈ D, DonOk path d) → D.Pairwise (fun a b => tk a ≠ tk b) → FInv path D (foldM D) := by
  suffices h : ∀ (R : List Don), (∀ d ∈ R.reverse, DonOk path d) → R.reverse.Pairwise (fun a b => tk a ≠ tk b) → FInv path R.reverse (foldM R.reverse) from fun D h1 h2 => by
    have := h D.reverse (by simpa using h1) (by simpa using h2)
    simpa using this
  intro R
  induction R with
  | nil => intro _ _; exact ⟨fun _ d hd => by simp at hd, fun _ d hd => by simp at hd, fun h => absurd rfl h⟩
  | cons d R ih =>
    rw [List.reverse_cons]
    generalize R.reverse = D at ih
    intro hok hpw
    have hD := ih (fun e he => hok e (List.mem_append_left _ he)) (List.pairwise_append.1 hpw).1
    have hdd := hok d (by simp)
    have hne : ∀ e ∈ D, tk e ≠ tk d := fun e he => (List.pairwise_append.1 hpw).2.2 e he d (by simp)
    rw [foldM_snoc]
    generalize foldM D = st at hD
    unfold stepM
    by_cases his : d.2.2 = false
    · rw [if_pos his]
      refine ⟨fun h e he => ?_, fun h e he hi => ?_, fun h => ?_⟩
      · rcases List.mem_append.1 he with he | he
        · exact hD.none h e he
        · rw [List.mem_singleton.1 he]; exact his
      · rcases List.mem_append.1 he with he | he
        · exact hD.void h e he hi
        · rw [List.mem_singleton.1 he, his] at hi; cases hi
      · obtain ⟨b, hb, b1, b2, b3, b4, b5⟩ := hD.best h
        refine ⟨b, List.mem_append_left _ hb, b1, b2, b3, fun h e he hi => ?_, fun h e he hi => ?_⟩
        · rcases List.mem_append.1 he with he | he
          · exact b4 h e he hi
          · rw [List.mem_singleton.1 he, his] at hi; cases hi
        · rcases List.mem_append.1 he with he | he
          · exact b5 h e he hi
          · rw [List.mem_singleton.1 he, his] at hi; cases hi
    · rw [if_neg his]
      have his' : d.2.2 = true := by simpa using his
      have hvoid : ∀ st' : MSt, st'.void = (st.void || decide ([] ∈ d.2.1)) → st'.void = false → ∀ e ∈ D ++ [d], e.2.2 = true → [] ∉ e.2.1 := by
        intro st' he' h e he hi
        rw [he', Bool.or_eq_false_iff] at h
        rcases List.mem_append.1 he with he | he
        · exact hD.void h.1 e he hi
        · rw [List.mem_singleton.1 he]
          simpa using h.2
      have hval : ∀ e ∈ D ++ [d], e.2.2 = true → valP (partsOf e.1) (partsOf path) [] = (e.2.1, true, true) := fun e he hi => by
        have := (hok e he).2
        rw [hi] at this
        exact this
      by_cases hc : st.hits = 0 ∨ ahd (partsOf d.1) (partsOf st.key) = true
      · simp only [hc, if_true]
        refine ⟨fun h => by simp at h, fun h => hvoid _ rfl h, fun _ => ⟨d, by simp, his', rfl, rfl, fun h e he hi => ?_, fun h e he hi => ?_⟩⟩
        · have h0 : st.hits = 0 := by simpa using h
          rcases List.mem_append.1 he with he | he
          · rw [hD.none h0 e he] at hi; cases hi
          · exact List.mem_singleton.1 he
        · rcases List.mem_append.1 he with he | he
          · rcases hc with h0 | ha
            · rw [hD.none h0 e he] at hi; cases hi
            · by_cases h0 : st.hits = 0
              · rw [hD.none h0 e he] at hi; cases hi
              · obtain ⟨b, hb, b1, b2, b3, b4, b5⟩ := hD.best h0
                have hv0 : st.void = false := by simp only [Bool.or_eq_false_iff] at h; exact h.1
                rw [← b2] at ha
                rcases b5 hv0 e he hi with rfl | hbe
                · exact .inr ha
                · exact .inr (ahd_trans _ _ _ ha hbe)
          · exact .inl (List.mem_singleton.1 he)
      · simp only [hc, if_false]
        have h0 : st.hits ≠ 0 := fun e => hc (.inl e)
        have ha : ¬ ahd (partsOf d.1) (partsOf st.key) = true := fun e => hc (.inr e)
        obtain ⟨b, hb, b1, b2, b3, b4, b5⟩ := hD.best h0
        refine ⟨fun h => by simp at h, fun h => hvoid _ rfl h, fun _ => ⟨b, List.mem_append_left _ hb, b1, b2, b3, fun h e he hi => ?_, fun h e he hi => ?_⟩⟩
        · exact absurd (by simpa using h) h0
        · have hv0 : st.void = false := by simp only [Bool.or_eq_false_iff] at h; exact h.1
          rcases List.mem_append.1 he with he | he
          · exact b5 hv0 e he hi
          · rw [List.mem_singleton.1 he]
            refine .inr ?_
            have hall := hvoid ⟨st.key, st.vals, _, st.hits + 1⟩ rfl h
            have hb' : b ∈ D ++ [d] := List.mem_append_left _ hb
            have hd' : d ∈ D ++ [d] := by simp
            rcases ahd_top (hok b hb').1 hdd.1 (hval b hb' b1) (hval d hd' his') (hall b hb' b1) (hall d hd' his') with h | ⟨h, _⟩ | ⟨h, _⟩
            · exact absurd h (hne b hb)
            · exact h
            · rw [b2] at h; exact absurd h ha

/-- What the reference tells is what the tokens' match tells. -/
theorem match_law {path : Bs} {D : List Don} (hok : ∀ d ∈ D, DonOk path d) (hpw : D.Pairwise (fun a b => tk a ≠ tk b)) (hpath : stripAll path = strip1 path)
    (hfin : 1 < (foldM D).hits → (foldM D).void = false ∨ ((∀ b ∈ (foldM D).key, b ≠ 123) ∧ strip1 (foldM D).key = strip1 path)) {ts : List Tok} {key : Bs} {ys : List Bs}
    (hmem : (ts, key) ∈ D.map (fun d => (tk d, d.1))) (hm : mt ts (stripAll path) [] = some ys) (hbest : ∀ x ∈ D.map (fun d => (tk d, d.1)), ∀ ys', mt x.1 (stripAll path) [] = some ys' → x.1 = ts ∨ Bef ts x.1) :
    (foldM D).hits ≠ 0 ∧ key = (foldM D).key ∧ ys = (foldM D).vals := by
  have hmt : ∀ d ∈ D, mt (tk d) (stripAll path) [] = if d.2.2 then some d.2.1 else none := fun d hd => by
    rw [hpath, ← join_parts]
    exact mt_top (hok d hd).1 (partsOf_ne _) (partsOf_no _) (hok d hd).2
  obtain ⟨e, he, hte⟩ := List.mem_map.1 hmem
  injection hte with h1 h2
  subst h1 h2
  rw [hmt e he] at hm
  have hei : e.2.2 = true := by
    cases h : e.2.2 with
    | true => rfl
    | false => rw [h] at hm; simp at hm
  rw [hei] at hm
  have hys : e.2.1 = ys := by simpa using hm
  have inv := fold_inv D hok hpw
  have hh : (foldM D).hits ≠ 0 := fun h0 => by rw [inv.none h0 e he] at hei; cases hei
  refine ⟨hh, ?_⟩
  obtain ⟨d, hd, d1, d2, d3, d4, d5⟩ := inv.best hh
  have hinj : ∀ a ∈ D, ∀ b ∈ D, tk a = tk b → a = b := fun a ha b hb hab => by
    obtain ⟨i, hi, rfl⟩ := List.getElem_of_mem ha
    obtain ⟨j, hj, rfl⟩ := List.getElem_of_mem hb
    rw [List.pairwise_iff_getElem] at hpw
    rcases Nat.lt_trichotomy i j with h | h | h
    · exact absurd hab (hpw i j hi hj h)
    · subst h; rfl
    · exact absurd hab.symm (hpw j i hj hi h)
  have hed : e = d := by
    apply Classical.byContradiction
    intro hne
    have hb := hbest (tk d, d.1) (List.mem_map.2 ⟨d, hd, rfl⟩) d.2.1 (by rw [hmt d hd, d1]; rfl)
    rcases hb with hb | hb
    · exact hne (hinj d hd e he hb).symm
    · have hh1 : 1 < (foldM D).hits := by
        rcases Nat.lt_or_ge 1 (foldM D).hits with h | h
        · exact h
        · exact absurd (d4 (by omega) e he hei) hne
      have vd := (hok d hd).2
      have ve := (hok e he).2
      rw [d1] at vd
      rw [hei] at ve
      rcases hfin hh1 with hv | ⟨hc, hs⟩
      · rcases ahd_top (hok e he).1 (hok d hd).1 ve vd (inv.void hv e he hei) (inv.void hv d hd d1) with h | ⟨h, h'⟩ | ⟨h, h'⟩
        · exact hne (hinj e he d hd h)
        · rcases d5 hv e he hei with h2 | h2
          · exact hne h2
          · have := ahd_trans _ _ _ h h2
            exact absurd this (by
              have : ∀ l : List Bs, ahd l l ≠ true := fun l => by
                induction l with
                | nil => simp [ahd]
                | cons x l ih => rw [ahd, if_neg (by simp)]; exact ih
              exact this _)
        · exact h' hb
      · have hpp : partsOf path = partsOf d.1 := by unfold partsOf; rw [← hs, ← d2]
        rw [hpp] at ve
        refine exact_top (hok e he).1 (hok d hd).1 ?_ ve hb
        intro y hy
        unfold kdP
        rw [if_pos]
        intro hy2
        cases y with
        | nil => cases hy2
        | cons a r =>
          simp at hy2
          subst hy2
          exact hc 123 (by rw [← d2]; exact mem_parts hy (by simp)) rfl
  subst hed
  exact ⟨d2, hys.symm.trans d3⟩
end Go.Proofs.YtpdnjgbcnnjdiaaDoor
