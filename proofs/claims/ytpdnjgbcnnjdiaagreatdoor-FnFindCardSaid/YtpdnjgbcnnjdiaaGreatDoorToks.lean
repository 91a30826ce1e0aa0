/- Patterns as lists of tokens; how the trie in memory takes a new node. -/
import Derived.Test.YtpdnjgbcnnjdiaaGreatDoorIndexAny
namespace Go.Proofs.YtpdnjgbcnnjdiaaGreatDoor
open Go Go.RowKit
set_option linter.unusedVariables false
set_option linter.unusedSimpArgs false

/-- A byte that may stand in a variable's name. -/
def nameB (b : UInt8) : Prop := 33 ≤ b.toNat ∧ b.toNat < 127 ∧ b ≠ 125
/-- A byte of a constant part. -/
def constB (b : UInt8) : Prop := b.toNat < 128 ∧ b ≠ 47 ∧ b ≠ 123
def kindOfName (nm : Bs) : Int := if [42] <:+ nm then 3 else 2

/-- A pattern's text, the tokens that the program makes of it, the names of its variables. -/
inductive Toks : Bs → List Tok → List Bs → Prop
  | nil : Toks [] [] []
  | slash {r ts ns} : Toks r ts ns → Toks (47 :: r) ((0, [47]) :: ts) ns
  | const {c r ts ns} : c ≠ [] → (∀ b ∈ c, constB b) → (r = [] ∨ ∃ r', r = 47 :: r') → Toks r ts ns → Toks (c ++ r) ((0, c) :: ts) ns
  | var {nm r ts ns} : (∀ b ∈ nm, nameB b) → Toks r ts ns → Toks (123 :: (nm ++ 125 :: r)) ((kindOfName nm, []) :: ts) (nm :: ns)

/-- A text without the slashes at its end. -/
def stripAll (l : Bs) : Bs := (l.reverse.dropWhile (· == 47)).reverse
theorem stripAll_snoc (l : Bs) : stripAll (l ++ [47]) = stripAll l := by simp [stripAll]
theorem stripAll_other (l : Bs) (h : ¬ [47] <:+ l) : stripAll l = l := by
  unfold stripAll
  cases hr : l.reverse with
  | nil => simp at hr; simp [hr]
  | cons b r =>
    have hl : l = r.reverse ++ [b] := by rw [← List.reverse_reverse l, hr]; simp
    have hb : b ≠ 47 := fun e => h (by rw [hl, e]; exact List.suffix_append _ _)
    have : (b == 47) = false := by simpa using hb
    rw [List.dropWhile_cons, this]
    simp [hl]

theorem Toks.len {r : Bs} {ts : List Tok} {ns : List Bs} (h : Toks r ts ns) : ts.length ≤ r.length ∧ ns.length ≤ r.length ∧ ∀ t ∈ ts, t.2.length ≤ r.length := by
  induction h with
  | nil => simp
  | slash _ ih =>
    obtain ⟨h1, h2, h3⟩ := ih
    refine ⟨by simp; omega, by simp; omega, fun t ht => ?_⟩
    rcases List.mem_cons.1 ht with rfl | ht
    · simp
    · have := h3 t ht; simp; omega
  | const hc _ _ _ ih =>
    obtain ⟨h1, h2, h3⟩ := ih
    have := List.length_pos_iff.2 hc
    refine ⟨by simp; omega, by simp; omega, fun t ht => ?_⟩
    rcases List.mem_cons.1 ht with rfl | ht
    · simp
    · have := h3 t ht; simp; omega
  | var _ _ ih =>
    obtain ⟨h1, h2, h3⟩ := ih
    refine ⟨by simp; omega, by simp; omega, fun t ht => ?_⟩
    rcases List.mem_cons.1 ht with rfl | ht
    · simp
    · have := h3 t ht; simp; omega

theorem Toks.inv {r : Bs} {ts : List Tok} {ns : List Bs} (h : Toks r ts ns) :
    (r = [] ∧ ts = [] ∧ ns = []) ∨ (∃ r' ts', r = 47 :: r' ∧ ts = (0, [47]) :: ts' ∧ Toks r' ts' ns) ∨
    (∃ c r' ts', c ≠ [] ∧ (∀ b ∈ c, constB b) ∧ (r' = [] ∨ ∃ r'', r' = 47 :: r'') ∧ r = c ++ r' ∧ ts = (0, c) :: ts' ∧ Toks r' ts' ns) ∨
    (∃ nm r' ts' ns', (∀ b ∈ nm, nameB b) ∧ r = 123 :: (nm ++ 125 :: r') ∧ ts = (kindOfName nm, []) :: ts' ∧ ns = nm :: ns' ∧ Toks r' ts' ns') := by
  cases h with
  | nil => exact .inl ⟨rfl, rfl, rfl⟩
  | slash h => exact .inr (.inl ⟨_, _, rfl, rfl, h⟩)
  | const h1 h2 h3 h => exact .inr (.inr (.inl ⟨_, _, _, h1, h2, h3, rfl, rfl, h⟩))
  | var h1 h => exact .inr (.inr (.inr ⟨_, _, _, _, h1, rfl, rfl, rfl, h⟩))

/-! ### A new node -/
def upd {α β : Type} [DecidableEq α] (f : α → β) (a : α) (b : β) : α → β := fun x => if x = a then b else f x
theorem upd_same {α β : Type} [DecidableEq α] (f : α → β) (a : α) (b : β) : upd f a b a = b := by simp [upd]
theorem upd_other {α β : Type} [DecidableEq α] (f : α → β) (a x : α) (b : β) (h : x ≠ a) : upd f a b x = f x := by simp [upd, h]

def Mem.grown (M : Mem) (p : Path) (t : Tok) (ks : List Tok) (nb' : Nat) (sv' : Value) : Mem where
  kids := upd M.kids p ks
  nb := upd M.nb (p ++ [t]) nb'
  sv := upd (upd M.sv p sv') (p ++ [t]) (.slice none 0 0)
  vn := upd M.vn (p ++ [t]) (.slice none 0 0)
  own := fun b => if b = nb' then some (p ++ [t], false) else if sv'.ownBlock = some b then some (p, true) else M.own b

theorem ne_snoc (p : Path) (t : Tok) : p ≠ p ++ [t] := fun h => by have := congrArg List.length h; simp at this
theorem snoc_inj {p q : Path} {t u : Tok} (h : p ++ [t] = q ++ [u]) : p = q ∧ t = u := by
  have := List.append_inj' h rfl
  exact ⟨this.1, by simpa using this.2⟩

theorem Rep.add {w w' : World} {B : Nat} {S : Path → Prop} {V : Path → Option Bs} {M : Mem} (h : Rep w B S V M) {p : Path} {t : Tok} (hp : S p) (hn : ¬ S (p ++ [t])) (hV : V (p ++ [t]) = none) (hK : M.kids (p ++ [t]) = [])
    (ks : List Tok) (nb' : Nat) (sv' : Value) (hks : ∀ x, x ∈ ks ↔ x ∈ M.kids p ∨ x = t)
    (hBw : B ≤ w.heap.size) (hfresh : w.heap.size ≤ nb')
    (hnew : w'.heap[nb']? = some (.cells #[.slice none 0 0, .nilIface, .slice none 0 0] 62 (0, 0)))
    (hpar : w'.heap[M.nb p]? = some (.cells #[M.vn p, valV (V p), sv'] 62 (0, 0)))
    (hsv : ∀ b, sv'.ownBlock = some b → b ≠ nb' ∧ ((M.sv p).ownBlock = some b ∨ w.heap.size ≤ b))
    (hrow : w'.ownsRow B 101 3 sv' ks.length (kidCells (M.grown p t ks nb' sv') p ks))
    (hrest : ∀ b, (M.own b).isSome → b ≠ M.nb p → (M.sv p).ownBlock ≠ some b → w'.heap[b]? = w.heap[b]?) (hsz : w.heap.size ≤ w'.heap.size) :
    Rep w' B (fun q => S q ∨ q = p ++ [t]) V (M.grown p t ks nb' sv') where
  root := .inl h.root
  kid q u hq := by
    show u ∈ upd M.kids p ks q ↔ _
    rcases hq with hq | rfl
    · by_cases hqp : q = p
      · subst hqp
        rw [upd_same, hks, h.kid _ _ hq]
        constructor
        · rintro (h1 | rfl)
          · exact .inl h1
          · exact .inr rfl
        · rintro (h1 | h1)
          · exact .inl h1
          · exact .inr (snoc_inj h1).2
      · rw [upd_other _ _ _ _ hqp, h.kid _ _ hq]
        constructor
        · exact .inl
        · rintro (h1 | h1)
          · exact h1
          · exact absurd (snoc_inj h1).1 hqp
    · rw [upd_other _ _ _ _ (ne_snoc p t).symm, hK]
      constructor
      · intro h1; simp at h1
      · rintro (h1 | h1)
        · exact absurd (h.closed _ _ h1) hn
        · have := congrArg List.length h1; simp at this
  closed q u hq := by
    rcases hq with hq | hq
    · exact .inl (h.closed _ _ hq)
    · rw [(snoc_inj hq).1]; exact .inl hp
  node q hq := by
    show w'.heap[upd M.nb (p ++ [t]) nb' q]? = some (.cells #[upd M.vn (p ++ [t]) _ q, _, upd (upd M.sv p sv') (p ++ [t]) _ q] _ _)
    rcases hq with hq | rfl
    · have hne : q ≠ p ++ [t] := fun e => hn (e ▸ hq)
      rw [upd_other _ _ _ _ hne, upd_other _ _ _ _ hne, upd_other _ _ _ _ hne]
      by_cases hqp : q = p
      · subst hqp
        rw [upd_same]
        exact hpar
      · rw [upd_other _ _ _ _ hqp]
        have e1 := h.ownN q hq
        rw [hrest (M.nb q) (by rw [e1]; rfl) (fun e => hqp (by have := h.ownN p hp; rw [← e, e1] at this; injection this with this; injection this)) (fun e => by have := h.ownR p _ hp e; rw [e1] at this; injection this with this; injection this with _ this; cases this)]
        exact h.node q hq
    · rw [upd_same, upd_same, upd_same, hV]
      exact hnew
  row q hq := by
    show w'.ownsRow B _ 3 (upd (upd M.sv p sv') (p ++ [t]) _ q) (upd M.kids p ks q).length (kidCells _ q (upd M.kids p ks q))
    rcases hq with hq | rfl
    · have hne : q ≠ p ++ [t] := fun e => hn (e ▸ hq)
      rw [upd_other _ _ _ _ hne]
      by_cases hqp : q = p
      · subst hqp
        rw [upd_same, upd_same]
        exact hrow
      · rw [upd_other _ _ _ _ hqp, upd_other _ _ _ _ hqp]
        have hr := h.row q hq
        have ek : kidCells (M.grown p t ks nb' sv') q (M.kids q) = kidCells M q (M.kids q) := by
          unfold kidCells
          congr 1
          funext u
          have : q ++ [u] ≠ p ++ [t] := fun e => hqp (snoc_inj e).1
          simp [kidCell, Mem.grown, upd_other _ _ _ _ this]
        rw [ek]
        refine ⟨hr.1, ?_⟩
        rcases hr.2 with hn' | ⟨g, cap, cur, hv, hb, hg, rest⟩
        · exact .inl hn'
        · refine .inr ⟨g, cap, cur, hv, hb, ?_, rest⟩
          have e1 := h.ownR q g hq (by rw [hv]; rfl)
          rw [hrest g (by rw [e1]; rfl) (fun e => by have := h.ownN p hp; rw [← e, e1] at this; injection this with this; injection this with _ this; cases this) (fun e => hqp (by have := h.ownR p _ hp e; rw [e1] at this; injection this with this; injection this))]
          exact hg
    · rw [upd_same, upd_other _ _ _ _ (ne_snoc p t).symm, hK]
      exact World.ownsRow_nil _ _ _ _
  ownN q hq := by
    show (if upd M.nb (p ++ [t]) nb' q = nb' then some (p ++ [t], false) else if sv'.ownBlock = some (upd M.nb (p ++ [t]) nb' q) then some (p, true) else M.own (upd M.nb (p ++ [t]) nb' q)) = _
    rcases hq with hq | rfl
    · have hne : q ≠ p ++ [t] := fun e => hn (e ▸ hq)
      rw [upd_other _ _ _ _ hne]
      have e1 := h.ownN q hq
      have hlt := h.lt _ (by rw [e1]; rfl)
      rw [if_neg (by omega), if_neg, e1]
      intro e
      rcases (hsv _ e).2 with h2 | h2
      · have := h.ownR p _ hp h2
        rw [e1] at this
        injection this with this
        injection this with _ this
        cases this
      · omega
    · rw [upd_same, if_pos rfl]
  ownR q b hq hb := by
    show (if b = nb' then _ else _) = _
    change (upd (upd M.sv p sv') (p ++ [t]) _ q).ownBlock = some b at hb
    rcases hq with hq | rfl
    · have hne : q ≠ p ++ [t] := fun e => hn (e ▸ hq)
      rw [upd_other _ _ _ _ hne] at hb
      by_cases hqp : q = p
      · subst hqp
        rw [upd_same] at hb
        rw [if_neg (hsv b hb).1, if_pos hb]
      · rw [upd_other _ _ _ _ hqp] at hb
        have e1 := h.ownR q b hq hb
        have hlt := h.lt _ (by rw [e1]; rfl)
        rw [if_neg (by omega), if_neg, e1]
        intro e
        rcases (hsv _ e).2 with h2 | h2
        · have := h.ownR p _ hp h2
          rw [e1] at this
          injection this with this
          injection this with this
          exact hqp this
        · omega
    · rw [upd_same] at hb
      simp [Value.ownBlock] at hb
  base q hq := by
    show B ≤ upd M.nb (p ++ [t]) nb' q
    rcases hq with hq | rfl
    · rw [upd_other _ _ _ _ (by rintro rfl; exact hn hq)]; exact h.base q hq
    · rw [upd_same]; omega
  lt b hb := by
    change (if b = nb' then some (p ++ [t], false) else if sv'.ownBlock = some b then some (p, true) else M.own b).isSome at hb
    by_cases h1 : b = nb'
    · subst h1; exact (Array.getElem?_eq_some_iff.1 hnew).1
    · rw [if_neg h1] at hb
      by_cases h2 : sv'.ownBlock = some b
      · exact (hrow.lt b h2).2
      · rw [if_neg h2] at hb
        exact Nat.lt_of_lt_of_le (h.lt b hb) hsz
  out q hq := by
    show upd M.kids p ks q = []
    have h1 : ¬ S q := fun e => hq (.inl e)
    rw [upd_other _ _ _ _ (by rintro rfl; exact h1 hp)]
    exact h.out q h1

theorem heap_set (w : World) (g i : Nat) (c : Array Value) (T : TypeId) (v : Value) (h : w.heap[g]? = some (.cells c T (0, 0))) : (w.setCell ⟨g, i, none⟩ v).heap[g]? = some (.cells (c.setIfInBounds i v) T (0, 0)) := by
  simp [World.setCell, Array.getElem?_modify, h]

/-- A store into a node. -/
theorem Rep.store {w : World} {B : Nat} {S : Path → Prop} {V V' : Path → Option Bs} {M M' : Mem} (h : Rep w B S V M) {p : Path} (hp : S p) (i : Nat) (v : Value)
    (hk : M'.kids = M.kids) (hn : M'.nb = M.nb) (hs : M'.sv = M.sv) (ho : M'.own = M.own) (hv : ∀ q, q ≠ p → M'.vn q = M.vn q ∧ V' q = V q)
    (hc : #[M.vn p, valV (V p), M.sv p].setIfInBounds i v = #[M'.vn p, valV (V' p), M'.sv p]) : Rep (w.setCell ⟨M.nb p, i, none⟩ v) B S V' M' where
  root := h.root
  kid := by rw [hk]; exact h.kid
  closed := h.closed
  out := by rw [hk]; exact h.out
  node q hq := by
    rw [hn]
    by_cases hqp : q = p
    · subst hqp
      rw [heap_set w _ i _ _ v (h.node q hq), hc]
    · have hne : M.nb q ≠ M.nb p := fun e => hqp (by have h1 := h.ownN q hq; rw [e, h.ownN p hp] at h1; injection h1 with h1; injection h1 with h1; exact h1.symm)
      rw [Below.heap_setCell w ⟨M.nb p, i, none⟩ v _ hne, (hv q hqp).1, (hv q hqp).2, hs]
      exact h.node q hq
  row q hq := by
    rw [hk, hs]
    have e : kidCells M' q (M.kids q) = kidCells M q (M.kids q) := by unfold kidCells kidCell; rw [hn]
    rw [e]
    have hr := h.row q hq
    refine hr.kept (row := some (M.nb p)) ⟨rfl, rfl, rfl, by simp, fun k _ hne => Below.heap_setCell w _ v k (fun e => hne (by rw [e]))⟩ (.inr ?_)
    intro e
    have h1 := h.ownR q _ hq e
    rw [h.ownN p hp] at h1
    injection h1 with h1
    injection h1 with _ h1
    cases h1
  ownN := by rw [hn, ho]; exact h.ownN
  ownR := by rw [hs, ho]; exact h.ownR
  base := by rw [hn]; exact h.base
  lt b hb := by rw [ho] at hb; simpa using h.lt b hb

end Go.Proofs.YtpdnjgbcnnjdiaaGreatDoor
