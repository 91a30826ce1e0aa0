/- slices.SortFunc over a node's suffixes. -/
import Derived.Test.YtpdnjgbcnnjdiaaGreatDoorLeaf
import Derived.Test.YtpdnjgbcnnjdiaaGreatDoorLays
import Derived.Sort.Walk0
import Derived.Sort.LotA
import Derived.Shelf.SlSortCmp.SmallK
namespace Go.Proofs.YtpdnjgbcnnjdiaaGreatDoor
open Go Go.RowKit Go.Sort
set_option linter.unusedVariables false
set_option linter.unusedSimpArgs false

theorem bl (x y : Bs) : Op.bytesLess x y = decide (x < y) := bytesLess_eq x y
theorem u8_irrefl : ∀ x : UInt8, ¬ x < x := fun x h => by rw [UInt8.lt_iff_toNat_lt] at h; omega
theorem cmpB_lt (a b : Bs) : cmpB a b < 0 ↔ a < b := by
  unfold cmpB
  rw [bl]
  by_cases h : a < b
  · simp [h]
  · simp only [h, decide_false, Bool.false_eq_true, if_false]
    split <;> simp

theorem cmpTok_lt (a b : Tok) : cmpTok a b < 0 ↔ a.1 < b.1 ∨ (a.1 = b.1 ∧ b.2 < a.2) := by
  unfold cmpTok cmpK
  by_cases h1 : a.1 < b.1
  · simp [h1]
  · by_cases h2 : b.1 < a.1
    · have h3 : ¬ a.1 = b.1 := by omega
      simp [h1, h2, h3]
    · have h3 : a.1 = b.1 := by omega
      simp only [h1, h2, if_false, if_true, h3, true_and, false_or]
      have : ¬ b.1 < b.1 := by omega
      simpa [this] using cmpB_lt b.2 a.2

theorem tok_swo : SWO (ltOf fun (x y : Tok × Nat) => cmpTok x.1 y.1) where
  irrefl x := by
    simp only [ltOf, decide_eq_false_iff_not, cmpTok_lt]
    rintro (h | ⟨_, h⟩)
    · omega
    · exact List.lt_irrefl _ h
  trans x y z h1 h2 := by
    simp only [ltOf, decide_eq_true_eq, cmpTok_lt] at *
    rcases h1 with h1 | ⟨h1, h1'⟩ <;> rcases h2 with h2 | ⟨h2, h2'⟩
    · exact .inl (by omega)
    · exact .inl (by omega)
    · exact .inl (by omega)
    · exact .inr ⟨by omega, List.lt_trans h2' h1'⟩
  ntrans x y z h1 h2 := by
    simp only [ltOf, decide_eq_false_iff_not, cmpTok_lt, not_or, not_and] at *
    refine ⟨by omega, fun e => ?_⟩
    have e1 : x.1.1 = y.1.1 := by omega
    have e2 : y.1.1 = z.1.1 := by omega
    have a1 := h1.2 e1
    have a2 := h2.2 e2
    rw [List.not_lt] at *
    exact List.le_trans a1 a2

def encSfx (x : Tok × Nat) : List Value := [.int .i64 x.1.1, .string (mkS x.1.2), .pointer (some ⟨x.2, 0, none⟩)]
def cfSfx (x y : Tok × Nat) : Int := cmpTok x.1 y.1

theorem mkS_toL (l : Bs) : (mkS l).toList = l := by rw [toL, mkS_toList]

theorem cmpLays (blk off size : Nat) (w : World) : CmpLays Tryz.prog 53 #[] encSfx 3 cfSfx blk off size w := fun m os dk _ x y => by
  have h := compareSuffix x.1.1 y.1.1 (mkS x.1.2) (mkS y.1.2) (.pointer (some ⟨x.2, 0, none⟩)) (.pointer (some ⟨y.2, 0, none⟩)) (sortWorldK encSfx 3 w blk off m dk os)
  simp only [mkS_toL] at h
  refine h.mono fun e w' hh => ?_
  obtain ⟨he, hw⟩ := hh
  subst hw
  exact ⟨he, 0, _, by rw [alloc_eq_grow, alloc_eq_grow, grow_grow]; rfl⟩

theorem isAggSfx : ∀ w, (isAgg 101).run Tryz.prog w = .ok true w := fun w => by kernel_rfl
theorem sizeOfSfx : ∀ w, (Go.sizeOf 101).run Tryz.prog w = .ok 3 w := fun w => by kernel_rfl

theorem flat_get (l : List (Tok × Nat)) : ∀ i : Nat, (l.flatMap encSfx)[i]? = (l[i / 3]?).bind fun x => (encSfx x)[i % 3]? := by
  induction l with
  | nil => intro i; simp
  | cons x l ih =>
    intro i
    have hl : (encSfx x).length = 3 := rfl
    rw [List.flatMap_cons]
    by_cases h : i < 3
    · rw [List.getElem?_append_left (by omega), Nat.div_eq_of_lt h, Nat.mod_eq_of_lt h]
      simp
    · obtain ⟨j, rfl⟩ : ∃ j, i = j + 3 := ⟨i - 3, by omega⟩
      rw [List.getElem?_append_right (by omega), hl, Nat.add_sub_cancel, ih j, Nat.add_div_right j (by omega), Nat.add_mod_right]
      simp

theorem flat_length (l : List (Tok × Nat)) : (l.flatMap encSfx).length = l.length * 3 := by
  induction l with
  | nil => rfl
  | cons x l ih => rw [List.flatMap_cons, List.length_append, ih]; simp [encSfx]; omega

theorem flatK_get (d : Array (Tok × Nat)) (i : Nat) (h : i < d.size * 3) : some (flatK encSfx 3 d)[i]! = (d.toList.flatMap encSfx)[i]? := by
  have hd : i / 3 < d.size := by omega
  have hm : i % 3 < 3 := Nat.mod_lt _ (by omega)
  rw [flat_get]
  have e : (flatK encSfx 3 d)[i]! = (encSfx d[i / 3]!)[i % 3]! := by
    unfold flatK
    rw [getElem!_pos _ i (by simpa using h)]
    simp
  rw [e]
  simp only [Array.getElem?_toList, Array.getElem?_eq_getElem hd, Option.bind_some]
  rw [getElem!_pos d (i / 3) hd, getElem!_pos _ (i % 3) (by simpa [encSfx] using hm)]
  simp

theorem holds_of_own {w : World} {B : Nat} {g cap : Nat} (d : Array (Tok × Nat)) (h : w.ownsRow B 101 3 (.slice (some ⟨g, 0, none⟩) d.size cap) d.size (d.toList.flatMap encSfx)) : HoldsK encSfx 3 w g 0 d := by
  intro j hj
  have hj' : j < d.size * 3 := by simpa [flatK] using hj
  rw [Nat.zero_add]
  exact ⟨by rw [h.cellAt j hj']; exact (flatK_get d j hj').symm, h.frozenAt j⟩

theorem own_of_sort {w : World} {B : Nat} {g cap : Nat} (d d' : Array (Tok × Nat)) (hs : d'.size = d.size) (h : w.ownsRow B 101 3 (.slice (some ⟨g, 0, none⟩) d.size cap) d.size (d.toList.flatMap encSfx)) (m : Nat) (os : Array Obj) :
    (sortWorldK encSfx 3 w g 0 m d' os).ownsRow B 101 3 (.slice (some ⟨g, 0, none⟩) d.size cap) d.size (d'.toList.flatMap encSfx) ∧ w.grownBy (sortWorldK encSfx 3 w g 0 m d' os) (some g) := by
  rcases h.2 with ⟨h', _⟩ | ⟨g', cap', cur, h', hb, hg, hnc, hcm, hcs, htake⟩
  · simp at h'
  simp only [Value.slice.injEq, Option.some.injEq, Addr.mk.injEq, and_true, true_and] at h'
  obtain ⟨rfl, rfl⟩ := h'
  have hlt : g < w.heap.size := (Array.getElem?_eq_some_iff.1 hg).1
  have hat : ∀ k, k < w.heap.size → (sortWorldK encSfx 3 w g 0 m d' os).heap[k]? = (putRowK encSfx 3 w g 0 d').heap[k]? := by
    intro k hk
    unfold sortWorldK
    show ((putRowK encSfx 3 (Sort.ahead w m) g 0 d').heap ++ os)[k]? = _
    rw [Array.getElem?_append_left (by rw [size_putRowK]; exact hk)]
    rfl
  have hgk : (sortWorldK encSfx 3 w g 0 m d' os).heap[g]? = some (.cells (putCells id 0 (flatK encSfx 3 d') cur) 101 (0, 0)) := by
    rw [hat g hlt]
    show (w.heap.modify g (onCells _))[g]? = _
    rw [Array.getElem?_modify, if_pos rfl, hg]
    rfl
  refine ⟨⟨by rw [flat_length]; simp [hs], .inr ⟨g, cap, _, rfl, hb, hgk, hnc, hcm, by simpa [putCells] using hcs, ?_⟩⟩, ⟨rfl, rfl, rfl, ?_, ?_⟩⟩
  · apply List.ext_getElem?
    intro i
    rw [List.getElem?_take]
    split
    · rename_i hi
      have hi' : i < d'.size * 3 := by omega
      rw [← flatK_get d' i hi']
      have hic : i < cur.size := by rw [hcs]; have := Nat.mul_le_mul_right 3 hnc; omega
      simp [putCells, hic, flatK]
      intro hx
      omega
    · rename_i hi
      symm
      apply List.getElem?_eq_none
      rw [flat_length]
      simp [hs]
      omega
  · unfold sortWorldK
    rw [size_grow, size_putRowK]
    exact Nat.le_add_right _ _
  · intro k hk hne
    rw [hat k hk]
    show (w.heap.modify g (onCells _))[k]? = _
    rw [Array.getElem?_modify, if_neg (fun e => hne (by rw [e]))]

set_option maxHeartbeats 1000000 in
/-- slices.SortFunc over at most 12 suffixes: they lie in order behind it. -/
theorem sortFunc (g cap B : Nat) (d : Array (Tok × Nat)) (w : World) (h : w.ownsRow B 101 3 (.slice (some ⟨g, 0, none⟩) d.size cap) d.size (d.toList.flatMap encSfx)) (h12 : d.size ≤ 12) :
    Calls Tryz.prog 52 #[.slice (some ⟨g, 0, none⟩) d.size cap, .func (.func 53) #[] #[]] w fun e w' =>
      e = .returned (.tuple #[]) ∧ ∃ d' : Array (Tok × Nat), d'.size = d.size ∧ d'.toList.Perm d.toList ∧ (∀ i j, i < j → j < d'.size → ¬ cmpTok d'[j]!.1 d'[i]!.1 < 0) ∧ w'.ownsRow B 101 3 (.slice (some ⟨g, 0, none⟩) d.size cap) d.size (d'.toList.flatMap encSfx) ∧ w.grownBy w' (some g) := by
  have eg : ∀ args w, (callFunc 53 args).run Tryz.prog w = .ok (.enter 53 args) w := enters_of Tryz.func53 (by kernel_rfl) rfl
  have hlt : g < w.heap.size := (h.lt g rfl).2
  have hp := fun lim => AnyQ.pdqsortCmpFunc_small Tryz.pdqSfx 3 isAggSfx sizeOfSfx encSfx (fun _ => rfl) (fun x v hv => by simp [encSfx] at hv; rcases hv with rfl | rfl | rfl <;> rfl) cfSfx 53 #[] g 0 cap 0 d.size lim d w eg (cmpLays g 0 d.size w) (holds_of_own d h) hlt (Nat.zero_le _) (Nat.le_refl _) (by omega) (by omega)
  have hf : ∀ (n : Nat) (os : Array Obj), ∃ d' : Array (Tok × Nat), d'.size = d.size ∧ d'.toList.Perm d.toList ∧ (∀ i j, i < j → j < d'.size → ¬ cmpTok d'[j]!.1 d'[i]!.1 < 0) ∧ (sortWorldK encSfx 3 w g 0 n (Sort.insertionSort (ltOf cfSfx) d 0 d.size) os).ownsRow B 101 3 (.slice (some ⟨g, 0, none⟩) d.size cap) d.size (d'.toList.flatMap encSfx) ∧ w.grownBy (sortWorldK encSfx 3 w g 0 n (Sort.insertionSort (ltOf cfSfx) d 0 d.size) os) (some g) := by
    intro n os
    obtain ⟨⟨p1, p2, p3⟩, hsd⟩ := insertionSort_holds (lt := ltOf cfSfx) tok_swo d 0 d.size (Nat.zero_le _) (Nat.le_refl _)
    obtain ⟨o1, o2⟩ := own_of_sort d (Sort.insertionSort (ltOf cfSfx) d 0 d.size) p1 h n os
    refine ⟨_, p1, ?_, ?_, o1, o2⟩
    · have e : ∀ x : Array (Tok × Nat), x.size = d.size → x.extract 0 d.size = x := fun x hx => by rw [← hx]; simp
      rwa [e _ p1, e _ rfl] at p3
    · intro i j hij hj
      have := hsd i j (Nat.zero_le _) hij (by omega)
      exact of_decide_eq_false this
  have hl : Calls Tryz.prog 45 #[.int .u64 (d.size : Int)] w fun e w' => (∃ l : Int, e = .returned (.int .i64 l)) ∧ w' = w := (Tryz.bits_Len (d.size : Int) w (by omega) (by omega)).mono fun _ _ ⟨he, hw⟩ => ⟨⟨_, he⟩, hw⟩
  change ∀ lim, Calls Tryz.prog 74 _ _ _ at hp
  have wr : IntKind.u64.wrap (d.size : Int) = d.size := by simp [IntKind.wrap, IntKind.bits, IntKind.signed]; omega
  have HF := Lib.hid hf
  clear hf h
  go_enter Tryz.func52, Tryz.ntmps52
  go_wp2_with (first | (go_at_call 45; refine hl.mono ?_; rintro e w' ⟨⟨l, rfl⟩, rfl⟩) | (go_at_call 74; refine (hp _).mono ?_; rintro e w' ⟨rfl, n, os, rfl⟩))
  go_end0
  exact ⟨rfl, HF.out n os⟩

end Go.Proofs.YtpdnjgbcnnjdiaaGreatDoor
