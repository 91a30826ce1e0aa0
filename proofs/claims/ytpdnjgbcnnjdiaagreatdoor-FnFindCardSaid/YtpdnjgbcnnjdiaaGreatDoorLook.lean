/- What the look-up in the trie finds, told by the patterns' tokens. -/
import Derived.Test.YtpdnjgbcnnjdiaaGreatDoorImplMatch
namespace Go.Proofs.YtpdnjgbcnnjdiaaGreatDoor
open Go Go.RowKit
set_option linter.unusedVariables false
set_option linter.unusedSimpArgs false

/-- A pattern's tokens against a path: what its variables stand for. -/
def mt : List Tok → Bs → List Bs → Option (List Bs)
  | [], r, vs => if r = [] then some vs else none
  | t :: ts, r, vs =>
    if t.1 = 0 then (if t.2 <+: r then mt ts (r.drop t.2.length) vs else if r = [] ∧ t.2 = [47] then mt ts r vs else none)
    else if t.1 = 2 then mt ts (r.dropWhile (· != 47)) (vs ++ [r.takeWhile (· != 47)])
    else if t.1 = 3 then (if ts = [] then some (vs ++ [r]) else none)
    else none

/-- Which of two patterns the look-up comes to first. -/
inductive Bef : List Tok → List Tok → Prop
  | pre {u us} : Bef [] (u :: us)
  | diff {t u ts us} : t ≠ u → ¬ cmpTok u t < 0 → Bef (t :: ts) (u :: us)
  | cons {t ts us} : Bef ts us → Bef (t :: ts) (t :: us)

section
variable (kids : Path → List Tok) (V : Path → Option Bs) (S : Path → Prop)

def Found (p : Path) (r : Bs) (vs : List Bs) (ts : List Tok) (ys : List Bs) : Prop :=
  mt ts r vs = some ys ∧ (V (p ++ ts)).isSome ∧ ∀ ts' ys', (V (p ++ ts')).isSome → mt ts' r vs = some ys' → ts' = ts ∨ Bef ts ts'

theorem look_spec (hk : ∀ p t, S p → (t ∈ kids p ↔ S (p ++ [t]))) (hs : ∀ p, Srt (kids p)) (hV : ∀ q, (V q).isSome → S q) (hcl : ∀ p t, S (p ++ [t]) → S p) : ∀ n p, S p → (∀ q, S (p ++ q) → q.length < n) → ∀ r vs,
    (∀ q ys, look kids V n p r vs = some (q, ys) → ∃ ts, q = p ++ ts ∧ Found V p r vs ts ys) ∧
    (look kids V n p r vs = none → ∀ ts', (V (p ++ ts')).isSome → mt ts' r vs = none) := by
  have hpre : ∀ (p q : Path), S (p ++ q) → S p := by
    intro p q
    induction q generalizing p with
    | nil => intro h; simpa using h
    | cons t q ih => intro h; exact hcl p t (ih (p ++ [t]) (by simpa using h))
  intro n
  induction n with
  | zero => intro p hp hd; have := hd [] (by simpa using hp); simp at this
  | succ n ih =>
    intro p hp hd r vs
    have htry : ∀ t, S (p ++ [t]) →
        (∀ q ys, tryTok (look kids V n) V p r vs t = some (q, ys) → ∃ ts, q = p ++ t :: ts ∧ mt (t :: ts) r vs = some ys ∧ (V (p ++ t :: ts)).isSome ∧ ∀ ts' ys', (V (p ++ t :: ts')).isSome → mt (t :: ts') r vs = some ys' → ts' = ts ∨ Bef ts ts') ∧
        (tryTok (look kids V n) V p r vs t = none → ∀ ts', (V (p ++ t :: ts')).isSome → mt (t :: ts') r vs = none) := by
      intro t ht
      have hdt : ∀ q, S ((p ++ [t]) ++ q) → q.length < n := fun q hq => by
        have := hd (t :: q) (by simpa using hq)
        simp at this
        omega
      have sub : ∀ (r' : Bs) (vs' : List Bs), (∀ ts, mt (t :: ts) r vs = mt ts r' vs') →
          (∀ q ys, look kids V n (p ++ [t]) r' vs' = some (q, ys) → ∃ ts, q = p ++ t :: ts ∧ mt (t :: ts) r vs = some ys ∧ (V (p ++ t :: ts)).isSome ∧ ∀ ts' ys', (V (p ++ t :: ts')).isSome → mt (t :: ts') r vs = some ys' → ts' = ts ∨ Bef ts ts') ∧
          (look kids V n (p ++ [t]) r' vs' = none → ∀ ts', (V (p ++ t :: ts')).isSome → mt (t :: ts') r vs = none) := by
        intro r' vs' hm
        obtain ⟨i1, i2⟩ := ih (p ++ [t]) ht hdt r' vs'
        refine ⟨fun q ys h => ?_, fun h ts' hv => ?_⟩
        · obtain ⟨ts, rfl, h1, h2, h3⟩ := i1 q ys h
          refine ⟨ts, by simp, by rw [hm]; exact h1, by simpa using h2, fun ts' ys' hv hmt => ?_⟩
          exact h3 ts' ys' (by simpa using hv) (by rw [← hm]; exact hmt)
        · rw [hm]
          exact i2 h ts' (by simpa using hv)
      unfold tryTok
      by_cases h0 : t.1 = 0
      · simp only [h0, if_true]
        by_cases hp1 : t.2 <+: r
        · simp only [hp1, if_true]
          exact sub _ _ (fun ts => by simp [mt, h0, hp1])
        · by_cases hp2 : r = [] ∧ t.2 = [47]
          · rw [if_neg hp1, if_pos hp2]
            exact sub _ _ (fun ts => by simp only [mt, h0, if_true]; rw [if_neg hp1, if_pos hp2])
          · rw [if_neg hp1, if_neg hp2]
            refine ⟨fun q ys h => (by cases h), fun _ ts' _ => by simp only [mt, h0, if_true]; rw [if_neg hp1, if_neg hp2]⟩
      · by_cases h2 : t.1 = 2
        · have e2 : ¬ ((2 : Int) = 0) := by decide
          simp only [h2, e2, if_false, if_true]
          exact sub _ _ (fun ts => by simp [mt, h2])
        · by_cases h3 : t.1 = 3
          · rw [if_neg h0, if_neg h2, if_pos h3]
            have hm : ∀ ts, mt (t :: ts) r vs = if ts = [] then some (vs ++ [r]) else none := fun ts => by simp only [mt]; rw [if_neg h0, if_neg h2, if_pos h3]
            split
            · rename_i hv
              refine ⟨fun q ys h => ?_, fun h => by cases h⟩
              simp only [Option.some.injEq, Prod.mk.injEq] at h
              obtain ⟨rfl, rfl⟩ := h
              refine ⟨[], by simp, by rw [hm]; simp, by simpa using hv, fun ts' ys' _ h => ?_⟩
              rw [hm] at h
              split at h
              · exact .inl (by assumption)
              · cases h
            · rename_i hv
              refine ⟨fun q ys h => (by cases h), fun _ ts' hv' => ?_⟩
              rw [hm]
              split
              · rename_i he
                subst he
                exact absurd (by simpa using hv') hv
              · rfl
          · rw [if_neg h0, if_neg h2, if_neg h3]
            refine ⟨fun q ys h => (by cases h), fun _ ts' _ => by simp only [mt]; rw [if_neg h0, if_neg h2, if_neg h3]⟩
    have hkidS : ∀ t ts, (V (p ++ t :: ts)).isSome → t ∈ kids p := fun t ts hv => (hk p t hp).2 (hpre (p ++ [t]) ts (by simpa using hV _ hv))
    simp only [look]
    by_cases hA : r = [] ∧ (V p).isSome
    · rw [if_pos hA]
      refine ⟨fun q ys h => ?_, fun h => by cases h⟩
      simp only [Option.some.injEq, Prod.mk.injEq] at h
      obtain ⟨rfl, rfl⟩ := h
      refine ⟨[], by simp, by simp [mt, hA.1], by simpa using hA.2, fun ts' ys' _ _ => ?_⟩
      cases ts' with
      | nil => exact .inl rfl
      | cons u us => exact .inr .pre
    · rw [if_neg hA]
      have hnil : ∀ ys', (V (p ++ [])).isSome → mt [] r vs = some ys' → False := fun ys' hv hm => by
        simp only [mt] at hm
        split at hm
        · rename_i hr
          exact hA ⟨hr, by simpa using hv⟩
        · cases hm
      refine ⟨fun q ys h => ?_, fun h ts' hv => ?_⟩
      · obtain ⟨l1, t, l2, hl, ht, hbefore⟩ := List.findSome?_eq_some_iff.1 h
        have htk : t ∈ kids p := by rw [hl]; simp
        obtain ⟨ts, rfl, h1, h2, h3⟩ := (htry t ((hk p t hp).1 htk)).1 q ys ht
        refine ⟨t :: ts, rfl, h1, h2, fun ts' ys' hv hm => ?_⟩
        cases ts' with
        | nil => exact (hnil ys' hv hm).elim
        | cons u us =>
          have hu := hkidS u us hv
          rw [hl] at hu
          by_cases hut : u = t
          · subst hut
            rcases h3 us ys' hv hm with rfl | hb
            · exact .inl rfl
            · exact .inr (.cons hb)
          · rcases List.mem_append.1 hu with hu | hu
            · have := (htry u ((hk p u hp).1 (by rw [hl]; exact List.mem_append_left _ hu))).2 (hbefore u hu) us hv
              rw [hm] at this
              cases this
            · rcases List.mem_cons.1 hu with hu | hu
              · exact absurd hu hut
              · have hsrt := hs p
                rw [hl] at hsrt
                have h4 := (List.pairwise_append.1 hsrt).2.1
                have h5 := (List.pairwise_cons.1 h4).1 u hu
                exact .inr (.diff (fun e => hut e.symm) h5)
      · cases ts' with
        | nil =>
          cases hm : mt [] r vs with
          | none => rfl
          | some ys' => exact (hnil ys' hv hm).elim
        | cons u us =>
          have hu := hkidS u us hv
          have := List.findSome?_eq_none_iff.1 h u hu
          exact (htry u ((hk p u hp).1 hu)).2 this us hv
end

theorem VL_some (L : PL) : ∀ q key, VL L q = some key → (q, key) ∈ L := by
  suffices h : ∀ (L : PL) (V : Path → Option Bs) (q : Path) (key : Bs), L.foldl (fun V e => upd V e.1 (some e.2)) V q = some key → (q, key) ∈ L ∨ V q = some key by
    intro q key hq
    rcases h L _ q key hq with h | h
    · exact h
    · cases h
  intro L
  induction L with
  | nil => intro V q key h; exact .inr h
  | cons e L ih =>
    intro V q key h
    rcases ih _ q key h with h | h
    · exact .inl (by simp [h])
    · by_cases he : q = e.1
      · subst he
        change upd V e.1 (some e.2) e.1 = some key at h
        rw [upd_same] at h
        injection h with h
        subst h
        exact .inl (by simp)
      · change upd V e.1 (some e.2) q = some key at h
        rw [upd_other _ _ _ _ he] at h
        exact .inr h
theorem VL_is (L : PL) : ∀ e ∈ L, (VL L e.1).isSome := by
  suffices h : ∀ (L : PL) (V : Path → Option Bs) (q : Path), ((V q).isSome ∨ ∃ e ∈ L, e.1 = q) → (L.foldl (fun V e => upd V e.1 (some e.2)) V q).isSome from fun e he => h L _ _ (.inr ⟨e, he, rfl⟩)
  intro L
  induction L with
  | nil =>
    rintro V q (h | ⟨e, he, _⟩)
    · exact h
    · cases he
  | cons e L ih =>
    intro V q h
    refine ih _ q ?_
    show (upd V e.1 (some e.2) q).isSome ∨ _
    by_cases he : q = e.1
    · subst he; rw [upd_same]; exact .inl rfl
    · rw [upd_other _ _ _ _ he]
      rcases h with h | ⟨x, hx, h⟩
      · exact .inl h
      · rcases List.mem_cons.1 hx with rfl | hx
        · exact absurd h.symm he
        · exact .inr ⟨x, hx, h⟩
theorem SL_closed (L : PL) : ∀ p t, SL L (p ++ [t]) → SL L p := by
  rintro p t (h | ⟨e, he, h⟩)
  · have := congrArg List.length h; simp at this
  · exact .inr ⟨e, he, (List.prefix_append p [t]).trans h⟩

/-- What a call of impl.Match answers, told by the patterns alone. -/
def Ans (L : PL) (path : Bs) (w : World) (e : Ending) (w' : World) : Prop :=
  Below w.heap.size w w' ∧
    ((e = .returned (.tuple #[.string ⟨#[]⟩, .slice none 0 0, .bool false, .int .i64 0]) ∧ ∀ x ∈ L, mt x.1 (stripAll path) [] = none) ∨
     ∃ v ts key ys, (ts, key) ∈ L ∧ mt ts (stripAll path) [] = some ys ∧ (∀ x ∈ L, ∀ ys', mt x.1 (stripAll path) [] = some ys' → x.1 = ts ∨ Bef ts x.1) ∧ e = .returned (.tuple #[.string (mkS key), v, .bool true, .int .i64 0]) ∧ w'.ownsRow w.heap.size 9 1 v ys.length (strs ys))

theorem ans_of {L : PL} {path : Bs} {w w' : World} {e : Ending} (hG : Good L) (hlen : ∀ e ∈ L, e.2.length ≤ 100) (h : IPost L path w e w') : Ans L path w e w' := by
  obtain ⟨hb, kids, hk, hs, hm⟩ := h
  have hd : ∀ q, SL L ([] ++ q) → q.length < 101 := by
    intro q hq
    rw [List.nil_append] at hq
    rcases hq with rfl | ⟨e, he, hp⟩
    · simp
    · obtain ⟨ns, hT⟩ := hG e he
      have h1 := hT.len.1
      have h2 := hp.length_le
      have h3 := hlen e he
      have h4 : (stripAll e.2).length ≤ e.2.length := by
        unfold stripAll
        rw [List.length_reverse]
        have := (List.dropWhile_suffix (p := (· == 47)) (l := e.2.reverse)).length_le
        simpa using this
      omega
  have hV : ∀ q, (VL L q).isSome → SL L q := fun q hq => by
    obtain ⟨key, hk⟩ := Option.isSome_iff_exists.1 hq
    exact .inr ⟨_, VL_some L q key hk, List.prefix_rfl⟩
  obtain ⟨s1, s2⟩ := look_spec kids (VL L) (SL L) hk hs hV (SL_closed L) 101 [] (.inl rfl) hd (stripAll path) []
  refine ⟨hb, ?_⟩
  cases hl : look kids (VL L) 101 [] (stripAll path) [] with
  | none =>
    rw [hl] at hm
    exact .inl ⟨hm, fun x hx => s2 hl x.1 (by simpa using VL_is L x hx)⟩
  | some y =>
    obtain ⟨q, ys⟩ := y
    rw [hl] at hm
    obtain ⟨v, key, hkey, he, ho⟩ := hm
    obtain ⟨ts, hts, f1, f2, f3⟩ := s1 q ys hl
    rw [List.nil_append] at hts
    subst hts
    exact .inr ⟨v, q, key, ys, VL_some L q key hkey, f1, fun x hx ys' hx' => f3 x.1 ys' (by simpa using VL_is L x hx) hx', he, ho⟩

end Go.Proofs.YtpdnjgbcnnjdiaaGreatDoor
