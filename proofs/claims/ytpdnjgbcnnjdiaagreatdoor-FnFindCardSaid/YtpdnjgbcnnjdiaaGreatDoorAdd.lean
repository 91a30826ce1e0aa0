/- A new node is hung into the trie: what the append and the sort leave. -/
import Derived.Test.YtpdnjgbcnnjdiaaGreatDoorToks
namespace Go.Proofs.YtpdnjgbcnnjdiaaGreatDoor
open Go Go.RowKit
set_option linter.unusedVariables false
set_option linter.unusedSimpArgs false

/-- The suffixes of a node with the blocks of their nodes, the new one last. -/
def sufs (M : Mem) (p : Path) (t : Tok) (n : Nat) : Array (Tok × Nat) := ((M.kids p).map (fun u => (u, M.nb (p ++ [u]))) ++ [(t, n)]).toArray
theorem sufs_size (M : Mem) (p : Path) (t : Tok) (n : Nat) : (sufs M p t n).size = (M.kids p).length + 1 := by simp [sufs]
theorem sufs_cells (M : Mem) (p : Path) (kd : Int) (pt : Bs) (n : Nat) : (sufs M p (kd, pt) n).toList.flatMap encSfx = kidCells M p (M.kids p) ++ [.int .i64 kd, .string (mkS pt), .pointer (some ⟨n, 0, none⟩)] := by
  simp only [sufs, List.flatMap_append, List.flatMap_map, kidCells]
  rfl

theorem pre_sort {w8 : World} {B : Nat} {M : Mem} {p : Path} {kd : Int} {pt : Bs} {N g9 cap9 : Nat} {v : Value}
    (O8 : w8.ownsRow B 101 3 (.slice (some ⟨g9, 0, none⟩) ((M.kids p).length + 1) cap9) ((M.kids p).length + 1) (kidCells M p (M.kids p) ++ [.int .i64 kd, .string (mkS pt), .pointer (some ⟨N, 0, none⟩)])) (hne : g9 ≠ M.nb p) :
    (w8.setCell ⟨M.nb p, 2, none⟩ v).ownsRow B 101 3 (.slice (some ⟨g9, 0, none⟩) (sufs M p (kd, pt) N).size cap9) (sufs M p (kd, pt) N).size ((sufs M p (kd, pt) N).toList.flatMap encSfx) := by
  rw [sufs_cells, sufs_size]
  refine O8.kept (row := some (M.nb p)) ⟨rfl, rfl, rfl, by simp, fun k _ hk => Below.heap_setCell _ _ _ k (fun e => hk (by rw [e]))⟩ (.inr ?_)
  intro e
  injection e with e
  exact hne e

/-- The cells of the sorted suffixes, in the trie's new words. -/
theorem sorted_cells {S : Path → Prop} {M : Mem} {p : Path} {t : Tok} {N : Nat} {sv' : Value} (hn : t ∉ M.kids p) (l : List (Tok × Nat)) (hl : l.Perm (sufs M p t N).toList) :
    kidCells (M.grown p t (l.map (·.1)) N sv') p (l.map (·.1)) = l.flatMap encSfx ∧ (l.map (·.1)).length = (M.kids p).length + 1 ∧ ∀ x, x ∈ l.map (·.1) ↔ x ∈ M.kids p ∨ x = t := by
  have hmem : ∀ x ∈ l, (x.1 ∈ M.kids p ∧ x.2 = M.nb (p ++ [x.1])) ∨ x = (t, N) := by
    intro x hx
    have := hl.mem_iff.1 hx
    simp only [sufs, List.mem_append, List.mem_map, List.mem_singleton] at this
    rcases this with ⟨u, hu, rfl⟩ | h
    · exact .inl ⟨hu, rfl⟩
    · exact .inr h
  refine ⟨?_, ?_, ?_⟩
  · unfold kidCells
    rw [List.flatMap_map]
    suffices h : ∀ l' : List (Tok × Nat), (∀ x ∈ l', x ∈ l) → l'.flatMap (fun x => kidCell (M.grown p t (l.map (·.1)) N sv') p x.1) = l'.flatMap encSfx from h l (fun _ h => h)
    intro l'
    induction l' with
    | nil => intro _; rfl
    | cons x l' ih =>
      intro h
      rw [List.flatMap_cons, List.flatMap_cons, ih (fun y hy => h y (by simp [hy]))]
      congr 1
      rcases hmem x (h x (by simp)) with ⟨h1, h2⟩ | rfl
      · have hne : p ++ [x.1] ≠ p ++ [t] := fun e => hn (by rw [← (snoc_inj e).2]; exact h1)
        simp [kidCell, encSfx, Mem.grown, upd_other _ _ _ _ hne, h2]
      · simp [kidCell, encSfx, Mem.grown, upd_same]
  · have := hl.length_eq
    simp [sufs] at this
    simpa using this
  · intro x
    rw [List.mem_map]
    constructor
    · rintro ⟨y, hy, rfl⟩
      rcases hmem y hy with ⟨h1, _⟩ | rfl
      · exact .inl h1
      · exact .inr rfl
    · rintro (h | rfl)
      · exact ⟨(x, M.nb (p ++ [x])), hl.mem_iff.2 (by simp only [sufs]; exact List.mem_append_left _ (List.mem_map.2 ⟨x, h, rfl⟩)), rfl⟩
      · exact ⟨(x, N), hl.mem_iff.2 (by simp [sufs]), rfl⟩

section
variable {B : Nat} {Sp : Path → Prop} {V : Path → Option Bs} {M : Mem} {wr W w8 w10 : World} {o : Obj} {p : Path} {kd : Int} {pt : Bs} {g10 g9 cap cap9 : Nat} {a : Option Addr}

/-- What the new node's hanging in turns. -/
theorem add_frame (HRi : Rep wr B Sp V M) (HSP : Sp p) (HSV : M.sv p = .slice a (M.kids p).length cap)
    (HWO : ∀ k, k < wr.heap.size → k ≠ g10 → W.heap[k]? = wr.heap[k]?) (HWS : W.heap.size = wr.heap.size + 1)
    (G8 : ((W.alloc o).drew).grownBy w8 (Value.slice a (M.kids p).length cap).ownBlock)
    (D8 : (((W.alloc o).drew).grownBy w8 none ∧ ∃ b, (Value.slice (some ⟨g9, 0, none⟩) ((M.kids p).length + 1) cap9).ownBlock = some b ∧ ((W.alloc o).drew).heap.size ≤ b) ∨ (∃ b, (Value.slice a (M.kids p).length cap).ownBlock = some b ∧ (Value.slice (some ⟨g9, 0, none⟩) ((M.kids p).length + 1) cap9).ownBlock = some b))
    (G10 : (w8.setCell ⟨M.nb p, 2, none⟩ (.slice (some ⟨g9, 0, none⟩) ((M.kids p).length + 1) cap9)).grownBy w10 (some g9)) :
    (∀ k, k < wr.heap.size → k ≠ g10 → k ≠ M.nb p → (M.sv p).ownBlock ≠ some k → w10.heap[k]? = wr.heap[k]?) ∧ w10.heap[wr.heap.size]? = W.heap[wr.heap.size]? ∧ ((M.sv p).ownBlock = some g9 ∨ wr.heap.size + 2 ≤ g9) ∧ g9 ≠ M.nb p ∧ wr.heap.size ≤ w10.heap.size ∧ w10.heap[M.nb p]? = (w8.setCell ⟨M.nb p, 2, none⟩ (.slice (some ⟨g9, 0, none⟩) ((M.kids p).length + 1) cap9)).heap[M.nb p]? := by
  have hlt : ∀ b, (M.sv p).ownBlock = some b → b < wr.heap.size := fun b hb => ((HRi.row p HSP).lt b hb).2
  have hnp : M.nb p < wr.heap.size := HRi.lt _ (by rw [HRi.ownN p HSP]; rfl)
  have hg9 : (M.sv p).ownBlock = some g9 ∨ wr.heap.size + 2 ≤ g9 := by
    rw [HSV]
    rcases D8 with ⟨_, b, hb, hl⟩ | ⟨b, h1, h2⟩
    · have e : g9 = b := by simpa [Value.ownBlock] using hb
      have hl' : W.heap.size + 1 ≤ b := by have : (W.alloc o).heap.size ≤ b := hl; simpa using this
      right; omega
    · have e : g9 = b := by simpa [Value.ownBlock] using h2
      left; rw [h1, e]
  have hgp : g9 ≠ M.nb p := by
    rcases hg9 with h | h
    · intro e
      have h1 := HRi.ownR p _ HSP h
      rw [e, HRi.ownN p HSP] at h1
      injection h1 with h1
      injection h1 with _ h1
      cases h1
    · omega
  have hsz8 : W.heap.size + 1 ≤ w8.heap.size := by have := G8.size; simpa using this
  have hat : ∀ k, k < W.heap.size → (M.sv p).ownBlock ≠ some k → w8.heap[k]? = W.heap[k]? := fun k hk hne => by
    rw [G8.block k (by show k < (W.alloc o).heap.size; simp; omega) (fun e => hne (by rw [HSV]; exact e.symm))]
    exact heap_alloc_old W o hk
  have hsz10 := G10.size
  simp at hsz10
  refine ⟨fun k hk h1 h2 h3 => ?_, ?_, hg9, hgp, by omega, ?_⟩
  · rw [G10.block k (by simp; omega) (fun e => by injection e with e; subst e; rcases hg9 with h | h; exact h3 h; omega), Below.heap_setCell _ _ _ k h2, hat k (by omega) h3, HWO k hk h1]
  · rw [G10.block _ (by simp; omega) (fun e => by injection e with e; rcases hg9 with h | h; have := hlt _ h; omega; omega), Below.heap_setCell _ _ _ _ (by show wr.heap.size ≠ M.nb p; omega), hat _ (by omega) (fun h => by have := hlt _ h; omega)]
  · rw [G10.block _ (by simp; omega) (fun e => by injection e with e; exact hgp e.symm)]

/-- The trie with the new node. -/
theorem add_rep (HRi : Rep wr B Sp V M) (HSP : Sp p) (HSV : M.sv p = .slice a (M.kids p).length cap) (HNK : ¬ Sp (p ++ [(kd, pt)])) (hVn : V (p ++ [(kd, pt)]) = none) (hBw : B ≤ wr.heap.size) (HOG : M.own g10 = none)
    (HWN : W.heap[wr.heap.size]? = some (.cells #[.slice none 0 0, .nilIface, .slice none 0 0] 62 (0, 0)))
    (HWO : ∀ k, k < wr.heap.size → k ≠ g10 → W.heap[k]? = wr.heap[k]?) (HWS : W.heap.size = wr.heap.size + 1)
    (HB8 : w8.heap[M.nb p]? = some (.cells #[M.vn p, valV (V p), .slice a (M.kids p).length cap] 62 (0, 0)))
    (G8 : ((W.alloc o).drew).grownBy w8 (Value.slice a (M.kids p).length cap).ownBlock)
    (D8 : (((W.alloc o).drew).grownBy w8 none ∧ ∃ b, (Value.slice (some ⟨g9, 0, none⟩) ((M.kids p).length + 1) cap9).ownBlock = some b ∧ ((W.alloc o).drew).heap.size ≤ b) ∨ (∃ b, (Value.slice a (M.kids p).length cap).ownBlock = some b ∧ (Value.slice (some ⟨g9, 0, none⟩) ((M.kids p).length + 1) cap9).ownBlock = some b))
    (G10 : (w8.setCell ⟨M.nb p, 2, none⟩ (.slice (some ⟨g9, 0, none⟩) ((M.kids p).length + 1) cap9)).grownBy w10 (some g9))
    (l : List (Tok × Nat)) (hl : l.Perm (sufs M p (kd, pt) wr.heap.size).toList)
    (hO : w10.ownsRow B 101 3 (.slice (some ⟨g9, 0, none⟩) ((M.kids p).length + 1) cap9) ((M.kids p).length + 1) (l.flatMap encSfx)) :
    Rep w10 B (fun q => Sp q ∨ q = p ++ [(kd, pt)]) V (M.grown p (kd, pt) (l.map (·.1)) wr.heap.size (.slice (some ⟨g9, 0, none⟩) ((M.kids p).length + 1) cap9)) := by
  have hnk : (kd, pt) ∉ M.kids p := fun h => HNK ((HRi.kid p _ HSP).1 h)
  obtain ⟨hc, hlen, hmem⟩ := sorted_cells (S := Sp) (sv' := .slice (some ⟨g9, 0, none⟩) ((M.kids p).length + 1) cap9) hnk l hl
  obtain ⟨f1, f2, f3, f4, f5, f6⟩ := add_frame HRi HSP HSV HWO HWS G8 D8 G10
  refine HRi.add HSP HNK hVn (HRi.out _ HNK) _ _ _ hmem hBw (Nat.le_refl _) (by rw [f2, HWN]) ?_ ?_ ?_ ?_ f5
  · rw [f6, heap_set _ _ 2 _ _ _ HB8]
    rfl
  · intro b hb
    have e : g9 = b := by simpa [Value.ownBlock] using hb
    subst e
    refine ⟨?_, ?_⟩
    · rcases f3 with h | h
      · have := ((HRi.row p HSP).lt _ h).2; omega
      · omega
    · rcases f3 with h | h
      · exact .inl h
      · exact .inr (by omega)
  · rw [hc, hlen]
    exact hO
  · intro b hb h1 h2
    exact f1 b (HRi.lt b hb) (fun e => by rw [e, HOG] at hb; cases hb) h1 h2
end

end Go.Proofs.YtpdnjgbcnnjdiaaGreatDoor
