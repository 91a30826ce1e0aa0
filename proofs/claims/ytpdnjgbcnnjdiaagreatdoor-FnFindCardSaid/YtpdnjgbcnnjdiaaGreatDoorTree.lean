/- The trie of path patterns as the program lays it in memory: its nodes, named by the tokens that lead to them, and where each lies. -/
import Derived.Test.YtpdnjgbcnnjdiaaGreatDoorOwn
namespace Go.Proofs.YtpdnjgbcnnjdiaaGreatDoor
open Go Go.RowKit

abbrev Bs := List UInt8
/-- A token of a pattern: the kind of a suffix, its text. -/
abbrev Tok := Int × Bs
abbrev Path := List Tok
def mkS (l : Bs) : ByteArray := ⟨l.toArray⟩
theorem mkS_toList (l : Bs) : (mkS l).data.toList = l := by simp [mkS]
theorem mkS_eq (s : ByteArray) (l : Bs) (h : s.data.toList = l) : s = mkS l := by
  subst h
  cases s
  simp [mkS]
theorem mkS_self (s : ByteArray) : mkS s.data.toList = s := (mkS_eq s _ rfl).symm
theorem mkS_size (l : Bs) : (mkS l).size = l.length := by simp [mkS, ByteArray.size]
def strs (l : List Bs) : List Value := l.map fun b => .string (mkS b)

/-- Where the nodes lie: 'own b = some (p, false)': block b is p's node; 'some (p, true)': the array of p's suffixes. -/
structure Mem where
  kids : Path → List Tok
  nb : Path → Nat
  sv : Path → Value
  vn : Path → Value
  own : Nat → Option (Path × Bool)

def valV : Option Bs → Value
  | none => .nilIface
  | some s => .iface 9 (.string (mkS s))

def kidCell (M : Mem) (p : Path) (t : Tok) : List Value := [.int .i64 t.1, .string (mkS t.2), .pointer (some ⟨M.nb (p ++ [t]), 0, none⟩)]
def kidCells (M : Mem) (p : Path) (l : List Tok) : List Value := l.flatMap (kidCell M p)
theorem kidCells_length (M : Mem) (p : Path) (l : List Tok) : (kidCells M p l).length = l.length * 3 := by
  induction l with
  | nil => rfl
  | cons t l ih => simp only [kidCells, List.flatMap_cons, List.length_append, List.length_cons] at ih ⊢; rw [ih]; simp [kidCell]; omega

structure Rep (w : World) (B : Nat) (S : Path → Prop) (V : Path → Option Bs) (M : Mem) : Prop where
  root : S []
  kid : ∀ p t, S p → (t ∈ M.kids p ↔ S (p ++ [t]))
  closed : ∀ p t, S (p ++ [t]) → S p
  out : ∀ p, ¬ S p → M.kids p = []
  node : ∀ p, S p → w.heap[M.nb p]? = some (.cells #[M.vn p, valV (V p), M.sv p] 62 (0, 0))
  row : ∀ p, S p → w.ownsRow B 101 3 (M.sv p) (M.kids p).length (kidCells M p (M.kids p))
  ownN : ∀ p, S p → M.own (M.nb p) = some (p, false)
  ownR : ∀ p b, S p → (M.sv p).ownBlock = some b → M.own b = some (p, true)
  base : ∀ p, S p → B ≤ M.nb p
  lt : ∀ b, (M.own b).isSome → b < w.heap.size

/-- The trie reads as before in a world that holds its blocks unturned. -/
theorem Rep.keep {w w' : World} {B : Nat} {S : Path → Prop} {V : Path → Option Bs} {M : Mem} (h : Rep w B S V M) (hs : w.heap.size ≤ w'.heap.size) (hk : ∀ b, (M.own b).isSome → w'.heap[b]? = w.heap[b]?) : Rep w' B S V M where
  root := h.root
  kid := h.kid
  closed := h.closed
  out := h.out
  node p hp := by rw [hk _ (by rw [h.ownN p hp]; rfl)]; exact h.node p hp
  row p hp := by
    have hr := h.row p hp
    refine ⟨hr.1, ?_⟩
    rcases hr.2 with hn | ⟨g, cap, cur, hv, hb, hg, rest⟩
    · exact .inl hn
    · refine .inr ⟨g, cap, cur, hv, hb, ?_, rest⟩
      rw [hk g (by rw [h.ownR p g hp (by rw [hv]; rfl)]; rfl)]
      exact hg
  ownN := h.ownN
  ownR := h.ownR
  base := h.base
  lt b hb := Nat.lt_of_lt_of_le (h.lt b hb) hs

theorem Rep.below {w w' : World} {B B1 : Nat} {S : Path → Prop} {V : Path → Option Bs} {M : Mem} (h : Rep w B S V M) (hb : Below B1 w w') (hB : ∀ b, (M.own b).isSome → b < B1) : Rep w' B S V M :=
  h.keep hb.size (fun b ho => hb.block b (hB b ho))

theorem Rep.alloc {w : World} {B : Nat} {S : Path → Prop} {V : Path → Option Bs} {M : Mem} (h : Rep w B S V M) (o : Obj) : Rep (w.alloc o) B S V M :=
  h.keep (by simp) (fun b ho => heap_alloc_old w o (h.lt b ho))
theorem Rep.drew {w : World} {B : Nat} {S : Path → Prop} {V : Path → Option Bs} {M : Mem} (h : Rep w B S V M) : Rep w.drew B S V M := h.keep (Nat.le_refl _) (fun _ _ => rfl)

theorem Rep.cell {w : World} {B : Nat} {S : Path → Prop} {V : Path → Option Bs} {M : Mem} (h : Rep w B S V M) {p : Path} (hp : S p) :
    w.cell? ⟨M.nb p, 0, none⟩ = some (M.vn p) ∧ w.cell? ⟨M.nb p, 1, none⟩ = some (valV (V p)) ∧ w.cell? ⟨M.nb p, 2, none⟩ = some (M.sv p) := by
  have := h.node p hp
  simp [World.cell?, this]

theorem Rep.frozen {w : World} {B : Nat} {S : Path → Prop} {V : Path → Option Bs} {M : Mem} (h : Rep w B S V M) {p : Path} (hp : S p) (o : Nat) : w.frozen? ⟨M.nb p, o, none⟩ = false := by
  have := h.node p hp
  simp [World.frozen?, this]

theorem kidCells_get (M : Mem) (p : Path) : ∀ (l : List Tok) (k : Nat) (t : Tok), l[k]? = some t → (kidCells M p l)[k * 3]? = some (.int .i64 t.1) ∧ (kidCells M p l)[k * 3 + 1]? = some (.string (mkS t.2)) ∧ (kidCells M p l)[k * 3 + 2]? = some (.pointer (some ⟨M.nb (p ++ [t]), 0, none⟩)) := by
  intro l
  induction l with
  | nil => intro k t h; simp at h
  | cons x l ih =>
    intro k t h
    cases k with
    | zero => simp at h; subst h; simp [kidCells, kidCell]
    | succ k =>
      simp at h
      obtain ⟨h1, h2, h3⟩ := ih k t h
      have e : kidCells M p (x :: l) = kidCell M p x ++ kidCells M p l := by simp [kidCells]
      have hl : (kidCell M p x).length = 3 := rfl
      rw [e]
      refine ⟨?_, ?_, ?_⟩
      · rw [List.getElem?_append_right (by rw [hl]; omega), hl, show (k + 1) * 3 - 3 = k * 3 from by omega]; exact h1
      · rw [List.getElem?_append_right (by rw [hl]; omega), hl, show (k + 1) * 3 + 1 - 3 = k * 3 + 1 from by omega]; exact h2
      · rw [List.getElem?_append_right (by rw [hl]; omega), hl, show (k + 1) * 3 + 2 - 3 = k * 3 + 2 from by omega]; exact h3

/-- A node's suffixes: where they lie, and what the k-th of them holds. -/
theorem Rep.suf {w : World} {B : Nat} {S : Path → Prop} {V : Path → Option Bs} {M : Mem} (h : Rep w B S V M) {p : Path} (hp : S p) :
    (M.kids p = [] ∧ M.sv p = .slice none 0 0) ∨ ∃ g cap, M.sv p = .slice (some ⟨g, 0, none⟩) (M.kids p).length cap ∧ B ≤ g ∧ M.own g = some (p, true) ∧ (M.kids p).length ≤ cap ∧ cap ≤ maxLen ∧
      ∀ k t, (M.kids p)[k]? = some t → w.cell? ⟨g, k * 3, none⟩ = some (.int .i64 t.1) ∧ w.cell? ⟨g, k * 3 + 1, none⟩ = some (.string (mkS t.2)) ∧ w.cell? ⟨g, k * 3 + 2, none⟩ = some (.pointer (some ⟨M.nb (p ++ [t]), 0, none⟩)) := by
  have hr := h.row p hp
  rcases hr.2 with ⟨hn, h0⟩ | ⟨g, cap, cur, hv, hb, hg, h1, h2, h3, h4⟩
  · exact .inl ⟨List.eq_nil_of_length_eq_zero h0, hn⟩
  · refine .inr ⟨g, cap, hv, hb, h.ownR p g hp (by rw [hv]; rfl), h1, h2, ?_⟩
    intro k t hk
    have hkl : k < (M.kids p).length := by
      have := List.getElem?_eq_some_iff.1 hk
      exact this.1
    obtain ⟨e1, e2, e3⟩ := kidCells_get M p (M.kids p) k t hk
    rw [hv] at hr
    refine ⟨?_, ?_, ?_⟩
    · rw [hr.cellAt _ (by omega)]; exact e1
    · rw [hr.cellAt _ (by omega)]; exact e2
    · rw [hr.cellAt _ (by omega)]; exact e3

/-- The same, the empty list not set apart. -/
theorem Rep.suf1 {w : World} {B : Nat} {S : Path → Prop} {V : Path → Option Bs} {M : Mem} (h : Rep w B S V M) {p : Path} (hp : S p) :
    ∃ a cap, M.sv p = .slice a (M.kids p).length cap ∧ (M.kids p).length ≤ maxLen ∧ ∀ k t, (M.kids p)[k]? = some t → ∃ g, a = some ⟨g, 0, none⟩ ∧ M.own g = some (p, true) ∧ w.cell? ⟨g, k * 3, none⟩ = some (.int .i64 t.1) ∧ w.cell? ⟨g, k * 3 + 1, none⟩ = some (.string (mkS t.2)) ∧ w.cell? ⟨g, k * 3 + 2, none⟩ = some (.pointer (some ⟨M.nb (p ++ [t]), 0, none⟩)) := by
  rcases h.suf hp with ⟨hk, hv⟩ | ⟨g, cap, hv, hB, ho, h1, h2, hc⟩
  · exact ⟨none, 0, by rw [hk]; exact hv, by rw [hk]; exact Nat.zero_le _, fun k t e => by rw [hk] at e; simp at e⟩
  · exact ⟨_, cap, hv, Nat.le_trans h1 h2, fun k t e => ⟨g, rfl, ho, hc k t e⟩⟩

theorem Rep.sufAt {w : World} {B : Nat} {S : Path → Prop} {V : Path → Option Bs} {M : Mem} (h : Rep w B S V M) {p : Path} (hp : S p) {a : Option Addr} {n cap : Nat} (hsv : M.sv p = .slice a n cap) (k : Nat) (t : Tok) (hk : (M.kids p)[k]? = some t) :
    ∃ g, a = some ⟨g, 0, none⟩ ∧ M.own g = some (p, true) ∧ w.cell? ⟨g, k * 3, none⟩ = some (.int .i64 t.1) ∧ w.cell? ⟨g, k * 3 + 1, none⟩ = some (.string (mkS t.2)) ∧ w.cell? ⟨g, k * 3 + 2, none⟩ = some (.pointer (some ⟨M.nb (p ++ [t]), 0, none⟩)) := by
  obtain ⟨a', cap', hv, _, hc⟩ := h.suf1 hp
  rw [hsv] at hv
  injection hv with h1 h2 h3
  subst h1
  exact hc k t hk

/-! ### The look-up, as the program makes it -/
def slash : UInt8 := 47
/-- One suffix is tried. -/
def tryTok (go : Path → Bs → List Bs → Option (Path × List Bs)) (V : Path → Option Bs) (p : Path) (r : Bs) (vs : List Bs) (t : Tok) : Option (Path × List Bs) :=
  if t.1 = 0 then (if t.2 <+: r then go (p ++ [t]) (r.drop t.2.length) vs else if r = [] ∧ t.2 = [47] then go (p ++ [t]) r vs else none)
  else if t.1 = 2 then go (p ++ [t]) (r.dropWhile (· != 47)) (vs ++ [r.takeWhile (· != 47)])
  else if t.1 = 3 then (if (V (p ++ [t])).isSome then some (p ++ [t], vs ++ [r]) else none)
  else none

def look (kids : Path → List Tok) (V : Path → Option Bs) : Nat → Path → Bs → List Bs → Option (Path × List Bs)
  | 0, _, _, _ => none
  | n + 1, p, r, vs => if r = [] ∧ (V p).isSome then some (p, vs) else (kids p).findSome? (tryTok (look kids V n) V p r vs)

theorem tryTok_valued {go : Path → Bs → List Bs → Option (Path × List Bs)} {V : Path → Option Bs} {S : Path → Prop} (hgo : ∀ p r vs q ys, S p → go p r vs = some (q, ys) → (V q).isSome ∧ S q) {p : Path} {r : Bs} {vs : List Bs} {t : Tok} {q : Path} {ys : List Bs} (hp : S (p ++ [t])) (h : tryTok go V p r vs t = some (q, ys)) : (V q).isSome ∧ S q := by
  unfold tryTok at h
  split at h
  · split at h
    · exact hgo _ _ _ _ _ hp h
    · split at h
      · exact hgo _ _ _ _ _ hp h
      · cases h
  · split at h
    · exact hgo _ _ _ _ _ hp h
    · split at h
      · split at h
        · rename_i hv
          simp only [Option.some.injEq, Prod.mk.injEq] at h
          obtain ⟨rfl, _⟩ := h
          exact ⟨hv, hp⟩
        · cases h
      · cases h

theorem look_valued (kids : Path → List Tok) (V : Path → Option Bs) (S : Path → Prop) (hk : ∀ p t, S p → t ∈ kids p → S (p ++ [t])) : ∀ n p r vs q ys, S p → look kids V n p r vs = some (q, ys) → (V q).isSome ∧ S q := by
  intro n
  induction n with
  | zero => intro p r vs q ys _ h; simp [look] at h
  | succ n ih =>
    intro p r vs q ys hp h
    simp only [look] at h
    split at h
    · rename_i hc
      simp only [Option.some.injEq, Prod.mk.injEq] at h
      obtain ⟨rfl, _⟩ := h
      exact ⟨hc.2, hp⟩
    · obtain ⟨t, ht, h'⟩ := List.exists_of_findSome?_eq_some h
      exact tryTok_valued ih (hk p t hp ht) h'

end Go.Proofs.YtpdnjgbcnnjdiaaGreatDoor
