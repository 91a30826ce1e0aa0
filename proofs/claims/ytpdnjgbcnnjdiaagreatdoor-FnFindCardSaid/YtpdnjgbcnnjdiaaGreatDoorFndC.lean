/- normalizeTemplatedPath: nB and cB. -/
import Derived.Test.YtpdnjgbcnnjdiaaGreatDoorFndB
import Derived.Test.YtpdnjgbcnnjdiaaGreatDoorPureG
import Derived.Lib.IndexLaws
import Derived.Lib.OthersKept
import Derived.Laws.RangeString
namespace Go.Proofs.YtpdnjgbcnnjdiaaGreatDoor
open Go Go.RowKit Go.Sort Go.Maps Go.MapKept Go.ChangeMaps Go.WideMaps
set_option linter.unusedVariables false
set_option linter.unusedSimpArgs false

theorem ne_byte {a b : UInt8} (h : a ≠ b) : ((a.toNat : Int) == (b.toNat : Int)) = false := by
  rw [beq_eq_false_iff_ne]
  intro h2
  exact h (UInt8.toNat_inj.1 (by omega))
theorem Below.low {A B : Nat} {w w' : World} (h : Below B w w') (hAB : A ≤ B) : Below A w w' := ⟨h.os, h.tape, h.output, h.size, fun i hi => h.block i (by omega)⟩
theorem rune_one (c : UInt8) (h : c.toNat < 128) : Lib.runeCells (c.toNat : Int) = Lib.byteCells [c] := by
  simp [Lib.runeCells, Lib.encodeRuneZ_one (r := (c.toNat : Int)) (by omega) (by omega), Lib.byteCells]
theorem cells_reset {w : World} {b : Nat} {u v : Value} {t : TypeId} (h : w.heap[b]? = some (.cells #[u, v] t (0, 0))) (u' : Value) : (w.setCell ⟨b, 0, none⟩ u').cell? ⟨b, 1, none⟩ = some v ∧ (w.setCell ⟨b, 0, none⟩ u').frozen? ⟨b, 1, none⟩ = false ∧ ∀ v', ((w.setCell ⟨b, 0, none⟩ u').setCell ⟨b, 1, none⟩ v').heap[b]? = some (.cells #[u', v'] t (0, 0)) := by
  have h1 : (w.setCell ⟨b, 0, none⟩ u').heap[b]? = some (.cells #[u', v] t (0, 0)) := by simp [World.setCell, Array.getElem?_modify, h]
  refine ⟨(cells_two h1).2.1, (cells_two h1).2.2.1, fun v' => ?_⟩
  rw [World.setCell]
  simp [Array.getElem?_modify, h1]
theorem nB_none : ∀ (l : Bs), (∀ b ∈ l, b ≠ 123) → nB false l = l ∧ cB false l = 0
  | [], _ => ⟨rfl, rfl⟩
  | c :: r, h => by
    obtain ⟨h1, h2⟩ := nB_none r (fun b hb => h b (List.mem_cons_of_mem _ hb))
    rw [nB, if_neg (h c (by simp)), h1, cB, if_neg (h c (by simp)), h2]
    exact ⟨rfl, rfl⟩
theorem nB_nil (iv : Bool) : nB iv [] = [] ∧ cB iv [] = 0 := by cases iv <;> exact ⟨rfl, rfl⟩
theorem tpl_of_grow {w : World} {B b n : Nat} (h : Lib.BuilderAt 81 5 B b (.pointer (some ⟨b, 0, none⟩)) [] w) (hc : ∃ p cap, w.cell? ⟨b, 1, none⟩ = some (.slice p 0 cap) ∧ n ≤ cap) (hn : 1 ≤ n) : ∃ g cap, n ≤ cap ∧ Tpl w B b g cap [] := by
  obtain ⟨hB, v, hb, hown, hne⟩ := h
  obtain ⟨p, cap, hcell, hcap⟩ := hc
  rw [(cells_two hb).2.1] at hcell
  have hv : v = .slice p 0 cap := Option.some.inj hcell
  subst hv
  rcases hown.2 with ⟨h1, _⟩ | ⟨g, cap', cur, he, rest⟩
  · simp only [Value.slice.injEq] at h1; omega
  · simp only [Value.slice.injEq] at he
    obtain ⟨rfl, _, rfl⟩ := he
    refine ⟨g, cap, hcap, hB, hb, hown, fun e => hne ?_⟩
    simp [Value.ownBlock, e]
/-- A builder that is fresh. -/
def Frs (w : World) (b : Nat) : Prop := w.heap[b]? = some (.cells #[.pointer none, .slice none 0 0] 81 (0, 0))
theorem Frs.builder {w : World} {b : Nat} (h : Frs w b) : Lib.IsBuilderF 81 5 b b (Lib.byteCells []) w :=
  .inl ⟨Nat.le_refl _, _, h, World.ownsRowF_of (World.ownsRow_nil _ _ _ _), by simp [Value.ownBlock]⟩
abbrev SMap (w : World) (mb n : Nat) (D : DataW Unit) : Prop := w.ownsMap Tryz.prog 9 unitElem mb n D
theorem SMap.at {w w' : World} {mb n : Nat} {D : DataW Unit} (h : SMap w mb n D) (hb : w'.heap[mb]? = w.heap[mb]?) : SMap w' mb n D := by
  obtain ⟨es, clock, h1, h2⟩ := h
  exact ⟨es, clock, hb.trans h1, h2⟩
theorem SMap.blk {w : World} {mb n : Nat} {D : DataW Unit} (h : SMap w mb n D) : ∃ es clock, w.heap[mb]? = some (.map es clock) := by
  obtain ⟨es, clock, h1, _⟩ := h
  exact ⟨es, clock, h1⟩

set_option maxHeartbeats 4000000 in
set_option maxRecDepth 100000 in
theorem normPath (s : ByteArray) (hs : s.size ≤ 100) (ha : ∀ b ∈ s.data.toList, b.toNat < 128) (w : World) :
    Calls Tryz.prog 23 #[.string s] w fun e w' => (∃ m, e = .returned (.tuple #[.string (mkS (nB false s.data.toList)), .int .u64 (cB false s.data.toList), m])) ∧ Below w.heap.size w w' := by
  have HIX := Lib.hid ((Tryz.strings_IndexByte s 123 w).mono fun e w' (h : e = .returned (.int .i64 (Lib.indexByte s.data.toList 123)) ∧ w' = w) => (show e = .returned (.int .i64 (Lib.indexByte s.data.toList 123)) ∧ w = w' from ⟨h.1, h.2.symm⟩))
  have hge := Lib.indexByte_ge s.data.toList 123
  by_cases hno : Lib.indexByte s.data.toList 123 = -1
  · have hnone : ∀ b ∈ s.data.toList, b ≠ 123 := by
      rintro b hb rfl
      obtain ⟨k, hk⟩ := List.mem_iff_getElem?.1 hb
      exact Lib.indexByte_none hno k hk
    obtain ⟨e1, e2⟩ := nB_none _ hnone
    rw [e1, e2, mkS_self]
    rw [hno] at HIX
    clear hge hno
    go_enter Tryz.func23, Tryz.ntmps23
    go_wp2_with fail
    refine HIX.out.mono ?_
    rintro e w1 ⟨rfl, rfl⟩
    go_wp2_with fail
    go_ret3
    exact ⟨⟨_, rfl⟩, Below.refl _ _⟩
  · have hpos : 1 ≤ s.size := by
      rcases Nat.eq_zero_or_pos s.size with h0 | h0
      · exfalso
        apply hno
        have : s.data.toList = [] := List.eq_nil_of_length_eq_zero (by rw [size_list]; exact h0)
        rw [this]
        rfl
      · exact h0
    have hlt0 : (Lib.indexByte s.data.toList 123 < 0) = False := eq_false (by omega)
    generalize Lib.indexByte s.data.toList 123 = ix at HIX hlt0 hge hno
    have hgr := Tryz.Builder_Grow_fresh_cap w.heap.size w.heap.size s.size (w.alloc (.cells #[.pointer none, .slice none 0 0] 81)) (Nat.le_refl _) (heap_alloc_new w (.cells #[.pointer none, .slice none 0 0] 81)) (by simp) (by omega)
    have HGR := Lib.hid hgr
    have hmm := @run_makeMap Tryz.prog
    clear hgr hge hno
    go_enter Tryz.func23, Tryz.ntmps23
    go_wp2_with fail
    refine HIX.out.mono ?_
    rintro e w0 ⟨rfl, rfl⟩
    go_wp2_with fail
    refine HGR.out.mono ?_
    rintro e w1 ⟨rfl, ⟨hBA, hbl⟩, hcap⟩
    obtain ⟨g, cap, hcp, hT⟩ := tpl_of_grow hBA hcap hpos
    have HT1 := Lib.hid hT
    have HB1 := Lib.hid hbl
    obtain ⟨hbM, hgM, hgN⟩ := hT.lt
    clear hBA hbl hcap hT
    go_wp2_with fail
    go_loopw [6, 7, 8] (fun v6 v7 v8 wr => ∃ (pos K cnt : Nat) (Dm : DataW Unit) (x v : Bs) (cc : Int) (iv : Bool), v6 = .int .i32 cc ∧ v7 = .int .u64 cnt ∧ v8 = .bool iv ∧ pos ≤ s.size ∧ K ≤ pos ∧ x.length ≤ pos ∧ v.length ≤ pos ∧ cnt ≤ pos ∧ (iv = true → cc = 123 ∧ 1 ≤ pos) ∧
      Hid (x ++ nB iv (s.data.toList.drop pos) = nB false s.data.toList) ∧ Hid (cnt + cB iv (s.data.toList.drop pos) = cB false s.data.toList) ∧ Hid (Tpl wr w.heap.size w.heap.size g cap x) ∧ Hid (iv = true → Lib.IsBuilderF 81 5 (w1.heap.size + 1) (w1.heap.size + 1) (Lib.byteCells v) wr) ∧ Hid (iv = false → Frs wr (w1.heap.size + 1)) ∧ Hid (SMap wr w1.heap.size K Dm) ∧ Hid (wr.heap[w1.heap.size + 2]? = some (.stringIter s pos)) ∧ Hid (Below w.heap.size w wr))
      (fun _ _ _ wr => s.size - wr.iterPos (w1.heap.size + 2))
    case atStart =>
      have hb0 := HB1.out.size
      have o1 : ∀ k, k < w1.heap.size → (((w1.alloc (.map #[] 0)).alloc (.cells #[.pointer none, .slice none 0 0] 81)).alloc (.stringIter s 0)).heap[k]? = w1.heap[k]? := fun k hk => by
        rw [heap_alloc_old _ _ (by simp; omega), heap_alloc_old _ _ (by simp; omega), heap_alloc_old _ _ hk]
      have hs1 : (w1.alloc (.map #[] 0)).heap.size = w1.heap.size + 1 := by simp
      have hs2 : ((w1.alloc (.map #[] 0)).alloc (.cells #[.pointer none, .slice none 0 0] 81)).heap.size = w1.heap.size + 2 := by simp
      refine ⟨0, 0, 0, .map [], [], [], 0, false, rfl, rfl, rfl, Nat.zero_le _, Nat.le_refl _, Nat.le_refl _, Nat.le_refl _, Nat.le_refl _, (fun e => by cases e), ?_, ?_, ?_, ?_, ?_, ?_, ?_, ?_⟩
      · show _ = _; rw [List.drop_zero, List.nil_append]
      · show _ = _; rw [List.drop_zero, Nat.zero_add]
      · exact HT1.out.kept (o1 _ hbM) (o1 _ hgM)
      · show _ → _; exact fun e => by cases e
      · show _ → _
        intro _
        show (((w1.alloc (.map #[] 0)).alloc (.cells #[.pointer none, .slice none 0 0] 81)).alloc (.stringIter s 0)).heap[w1.heap.size + 1]? = _
        have := heap_alloc_new (w1.alloc (.map #[] 0)) (.cells #[.pointer none, .slice none 0 0] 81)
        rw [hs1] at this
        rw [heap_alloc_old _ _ (by rw [hs2]; omega)]
        exact this
      · exact World.ownsMap.alloc (World.ownsMap.alloc (World.ownsMap_made _ _ _ _) _) _
      · have := heap_alloc_new ((w1.alloc (.map #[] 0)).alloc (.cells #[.pointer none, .slice none 0 0] 81)) (.stringIter s 0)
        rw [hs2] at this
        exact this
      · refine ((Below.trans ((Below.refl w.heap.size w).alloc (Nat.le_refl _) _) HB1.out).alloc ?_ _).alloc ?_ _ |>.alloc ?_ _ <;> simp at hb0 ⊢ <;> omega
    case round =>
      obtain ⟨pos, K, cnt, Dm, x, v, cc, iv, rfl, rfl, rfl, hpl, hKp, hxp, hvp, hcp2, hiv, hX, hC, hT, hV, hF, hM, hI, hB⟩ := hrel
      have hszr : w1.heap.size + 2 < wr.heap.size := (Array.getElem?_eq_some_iff.1 hI.out).1
      have hszB := hB.out.size
      by_cases hp : pos < s.size
      · have hl : pos < s.data.toList.length := by rw [size_list]; exact hp
        have hdr := List.drop_eq_getElem_cons hl
        have hc1 := ha _ (List.getElem_mem hl)
        have hgt : s[pos]'hp = s.data.toList[pos] := by simp [ByteArray.getElem_eq_getElem_data]
        have hnx : ∀ ty, (Instr.next (.pointer (some ⟨w1.heap.size + 2, 0, none⟩)) true ty).run Tryz.prog wr = _ := fun ty => Lib.run_next_ascii_at wr (w1.heap.size + 2) s pos ty hI.out hp (by rw [hgt]; exact hc1)
        rw [hgt] at hnx
        have ho : ∀ j, j ≠ w1.heap.size + 2 → (wr.iterAt (w1.heap.size + 2) s (pos + 1)).heap[j]? = wr.heap[j]? := fun j hj => Lib.iterAt_other wr (w1.heap.size + 2) j s (pos + 1) hj
        have HI0 := Lib.hid (Lib.iterAt_heap wr (w1.heap.size + 2) s pos (pos + 1) hI.out)
        have HB0 := Lib.hid (Lib.below_iterAt hB.out (k := w1.heap.size + 2) (by omega) s (pos + 1))
        have HT0 := Lib.hid (hT.out.kept (ho _ (by omega)) (ho _ (by omega)))
        have HM0 := Lib.hid (SMap.at hM.out (ho _ (by omega)))
        have HF0 := Lib.hid (show iv = false → Frs (wr.iterAt (w1.heap.size + 2) s (pos + 1)) (w1.heap.size + 1) from fun e => (ho _ (by omega)).trans (hF.out e))
        have HV0 := Lib.hid (show iv = true → Lib.IsBuilderF 81 5 (w1.heap.size + 1) (w1.heap.size + 1) (Lib.byteCells v) (wr.iterAt (w1.heap.size + 2) s (pos + 1)) from fun e => (hV.out e).iterAt hI.out (pos + 1))
        have hsz0 : (wr.iterAt (w1.heap.size + 2) s (pos + 1)).heap.size = wr.heap.size := Lib.iterAt_size _ _ _ _
        generalize wr.iterAt (w1.heap.size + 2) s (pos + 1) = W0 at hnx ho HI0 HB0 HT0 HM0 HF0 HV0 hsz0
        have HDR := Lib.hid hdr
        generalize s.data.toList[pos] = c at hnx HDR hc1
        clear hdr hgt ho hT hV hF hM hl
        cases iv with
        | false =>
          have HWT := Lib.hid (writeTpl w.heap.size w.heap.size g cap x c hc1 W0 HT0.out (by omega))
          have hmeas : ∀ W1 : World, W1.heap[w1.heap.size + 2]? = some (.stringIter s (pos + 1)) → s.size - W1.iterPos (w1.heap.size + 2) < s.size - wr.iterPos (w1.heap.size + 2) := fun W1 h => by
            simp only [World.iterPos, h, hI.out]
            omega
          have HME := Lib.hid hmeas
          clear hmeas
          by_cases h123 : c = 123
          · subst h123
            have hwc : IntKind.u64.wrap ((cnt : Int) + 1) = ((cnt + 1 : Nat) : Int) := IntWalk.u64_in _ (by omega)
            go_wp2_with fail
            refine HWT.out.mono ?_
            rintro e W1 ⟨⟨ve, rfl⟩, hT1, hTwo⟩
            have HT1 := Lib.hid hT1
            have HTW := Lib.hid hTwo
            clear hT1 hTwo
            go_wp2_with fail
            have hI1 : W1.heap[w1.heap.size + 2]? = some (.stringIter s (pos + 1)) := (HTW.out.block _ (by omega) (by omega) (by omega)).trans HI0.out
            go_roundw
            case rel =>
              refine ⟨pos + 1, K, cnt + 1, Dm, x ++ [123], [], _, true, rfl, by simp, rfl, by omega, by omega, by rw [List.length_append, List.length_singleton]; omega, Nat.zero_le _, by omega, (fun _ => ⟨rfl, by omega⟩), ?_, ?_, HT1, (show _ → _ from fun _ => Frs.builder (show Frs W1 _ from (HTW.out.block _ (by omega) (by omega) (by omega)).trans (HF0.out trivial))), (show _ → _ from fun e => by cases e), SMap.at HM0.out (HTW.out.block _ (by omega) (by omega) (by omega)), hI1, HB0.out.trans (HTW.out.below (Nat.le_refl _) hgN (by omega))⟩
              · show _ = _
                have := hX.out
                rw [HDR.out, nB_open] at this
                simpa using this
              · show _ = _
                have := hC.out
                rw [HDR.out, cB_open] at this
                omega
            case measure => exact HME.out _ hI1
          · have hn123 : ((c.toNat : Int) == 123) = false := ne_byte (b := 123) h123
            go_wp2_with fail
            refine HWT.out.mono ?_
            rintro e W1 ⟨⟨ve, rfl⟩, hT1, hTwo⟩
            have HT1 := Lib.hid hT1
            have HTW := Lib.hid hTwo
            clear hT1 hTwo
            go_wp2_with fail
            have hI1 : W1.heap[w1.heap.size + 2]? = some (.stringIter s (pos + 1)) := (HTW.out.block _ (by omega) (by omega) (by omega)).trans HI0.out
            go_roundw
            case rel =>
              refine ⟨pos + 1, K, cnt, Dm, x ++ [c], [], _, false, rfl, rfl, rfl, by omega, by omega, by rw [List.length_append, List.length_singleton]; omega, Nat.zero_le _, by omega, (fun e => by cases e), ?_, ?_, HT1, (show _ → _ from fun e => by cases e), (show _ → _ from fun _ => (HTW.out.block _ (by omega) (by omega) (by omega)).trans (HF0.out trivial)), SMap.at HM0.out (HTW.out.block _ (by omega) (by omega) (by omega)), hI1, HB0.out.trans (HTW.out.below (Nat.le_refl _) hgN (by omega))⟩
              · show _ = _
                have := hX.out
                rw [HDR.out, nB, if_neg h123] at this
                simpa using this
              · show _ = _
                have := hC.out
                rw [HDR.out, cB, if_neg h123] at this
                omega
            case measure => exact HME.out _ hI1
        | true =>
          obtain ⟨rfl, hp1⟩ := hiv rfl
          have hVB := HV0.out rfl
          have hmeas : ∀ W1 : World, W1.heap[w1.heap.size + 2]? = some (.stringIter s (pos + 1)) → s.size - W1.iterPos (w1.heap.size + 2) < s.size - wr.iterPos (w1.heap.size + 2) := fun W1 h => by
            simp only [World.iterPos, h, hI.out]
            omega
          have HME := Lib.hid hmeas
          clear hmeas
          by_cases h125 : c = 125
          · subst h125
            have HST := Lib.hid (Tryz.Builder_String_any_k (w1.heap.size + 1) (w1.heap.size + 1) v W0 hVB (by omega))
            go_wp2_with fail
            refine HST.out.mono ?_
            rintro e W1 ⟨rfl, hIB, hb1, hk1⟩
            obtain ⟨pp, vv, hblk⟩ : ∃ pp vv, W1.heap[w1.heap.size + 1]? = some (.cells #[pp, vv] 81 (0, 0)) := by
              rcases hIB with ⟨_, vv, h, _⟩ | ⟨_, vv, h, _⟩ <;> exact ⟨_, vv, h⟩
            have HM1 := Lib.hid (SMap.at HM0.out (hb1.block _ (by omega)))
            have HT1 := Lib.hid (HT0.out.kept (hb1.block _ (by omega)) (hb1.block _ (by omega)))
            have HI1 := Lib.hid (hk1.iter HI0.out (by omega))
            have HB1' := Lib.hid (HB0.out.trans (Below.low hb1 (A := w.heap.size) (by omega)))
            have hszW := hb1.size
            have hvk : (⟨v.toArray⟩ : ByteArray).size ≤ maxLen := by simp [ByteArray.size]; unfold maxLen; omega
            have HBK := Lib.hid hblk
            clear hIB hb1 hk1 hblk hVB
            have hg0 : ((pos : Int) > 0) = True := eq_true (by omega)
            have hg1 : (0 < pos) = True := eq_true (by omega)
            go_wp2_with (first
              | (at_mapUpdate; refine wpList_mapUpdate_own _ rfl _ _ _ 52 rfl 9 83 lawS Tryz.underlying52 _ w1.heap.size K Dm rfl HM1.out (by unfold maxLen; omega) _ _ _ rfl rfl (keyOf_string_mk Tryz.underlying9 hvk) _ [] unitElem_mk ?_; intro W2 hm2 hg2; have hblk2 := (hg2.block _ (by omega) (by simp)).trans HBK.out; obtain ⟨d0, _, _, f0⟩ := cells_two hblk2; obtain ⟨d1, f1, hrs⟩ := cells_reset hblk2 (.pointer none); have HRS := Lib.hid (hrs (.slice none 0 0)); have HM2 := Lib.hid hm2; have HG2 := Lib.hid hg2; clear hm2 hg2 hblk2 hrs))
            have hszW2 := HG2.out.size
            have hkeep : ∀ k, k < W1.heap.size → k ≠ w1.heap.size → k ≠ w1.heap.size + 1 → ((W2.setCell ⟨w1.heap.size + 1, 0, none⟩ (.pointer none)).setCell ⟨w1.heap.size + 1, 1, none⟩ (.slice none 0 0)).heap[k]? = W1.heap[k]? := fun k h1 h2 h3 => by
              rw [Below.heap_setCell _ _ _ _ h3, Below.heap_setCell _ _ _ _ h3]
              exact HG2.out.block k h1 (by simp; omega)
            have HT3 := Lib.hid (HT1.out.kept (hkeep _ (by omega) (by omega) (by omega)) (hkeep _ (by omega) (by omega) (by omega)))
            have HI3 := Lib.hid ((hkeep _ (by omega) (by omega) (by omega)).trans HI1.out)
            have HM3 := Lib.hid (SMap.at HM2.out (show ((W2.setCell ⟨w1.heap.size + 1, 0, none⟩ (.pointer none)).setCell ⟨w1.heap.size + 1, 1, none⟩ (.slice none 0 0)).heap[w1.heap.size]? = W2.heap[w1.heap.size]? from by rw [Below.heap_setCell _ _ _ _ (by show w1.heap.size ≠ w1.heap.size + 1; omega), Below.heap_setCell _ _ _ _ (by show w1.heap.size ≠ w1.heap.size + 1; omega)]))
            have HB3 := Lib.hid (((HB1'.out.grown HG2.out (by omega) (fun j hj => by cases hj; omega)).setCell (p := ⟨w1.heap.size + 1, 0, none⟩) (by show w.heap.size ≤ w1.heap.size + 1; omega) (.pointer none)).setCell (p := ⟨w1.heap.size + 1, 1, none⟩) (by show w.heap.size ≤ w1.heap.size + 1; omega) (.slice none 0 0))
            have hsz3 : ((W2.setCell ⟨w1.heap.size + 1, 0, none⟩ (.pointer none)).setCell ⟨w1.heap.size + 1, 1, none⟩ (.slice none 0 0)).heap.size = W2.heap.size := by simp
            clear d0 d1 f0 f1 hkeep
            generalize (W2.setCell ⟨w1.heap.size + 1, 0, none⟩ (.pointer none)).setCell ⟨w1.heap.size + 1, 1, none⟩ (.slice none 0 0) = W3 at *
            refine (writeTpl w.heap.size w.heap.size g cap x 125 (by decide) W3 HT3.out (by omega)).mono ?_
            rintro e W4 ⟨⟨ve, rfl⟩, hT4, hTwo⟩
            have HT4 := Lib.hid hT4
            have HTW := Lib.hid hTwo
            clear hT4 hTwo
            go_wp2_with fail
            have hI4 : W4.heap[w1.heap.size + 2]? = some (.stringIter s (pos + 1)) := (HTW.out.block _ (by omega) (by omega) (by omega)).trans HI3.out
            go_roundw
            case rel =>
              refine ⟨pos + 1, K + 1, cnt, _, x ++ [125], [], _, false, rfl, rfl, rfl, by omega, by omega, by rw [List.length_append, List.length_singleton]; omega, Nat.zero_le _, by omega, (fun e => by cases e), ?_, ?_, HT4, (show _ → _ from fun e => by cases e), (show _ → _ from fun _ => (HTW.out.block _ (by omega) (by omega) (by omega)).trans HRS.out), SMap.at HM3.out (HTW.out.block _ (by omega) (by omega) (by omega)), hI4, HB3.out.trans (HTW.out.below (Nat.le_refl _) hgN (by omega))⟩
              · show _ = _
                have := hX.out
                rw [HDR.out, nB_shut] at this
                simpa using this
              · show _ = _
                have := hC.out
                rw [HDR.out, cB_shut] at this
                omega
            case measure => exact HME.out _ hI4
          · have hn125 : ((c.toNat : Int) == 125) = false := ne_byte (b := 125) h125
            have HWR := Lib.hid (Tryz.Builder_WriteRune_k (w1.heap.size + 1) (w1.heap.size + 1) (Lib.byteCells v) (c.toNat : Int) (by omega) (by omega) W0 hVB (by rw [Lib.byteCells_length]; omega) (by omega))
            clear hVB
            go_wp2_with fail
            refine HWR.out.mono ?_
            rintro e W1 ⟨rfl, hAt, hb1, hk1⟩
            rw [rune_one c hc1, ← Lib.byteCells_append] at hAt
            have HAt := Lib.hid hAt
            have HB1' := Lib.hid hb1
            have HK1 := Lib.hid hk1
            clear hAt hb1 hk1
            go_wp2_with fail
            have hI1 : W1.heap[w1.heap.size + 2]? = some (.stringIter s (pos + 1)) := HK1.out.iter HI0.out (by omega)
            go_roundw
            case rel =>
              refine ⟨pos + 1, K, cnt, Dm, x, v ++ [c], 123, true, rfl, rfl, rfl, by omega, by omega, by omega, by rw [List.length_append, List.length_singleton]; omega, by omega, (fun _ => ⟨rfl, by omega⟩), ?_, ?_, HT0.out.kept (HB1'.out.block _ (by omega)) (HB1'.out.block _ (by omega)), (show _ → _ from fun _ => .inr HAt.out), (show _ → _ from fun e => by cases e), SMap.at HM0.out (HB1'.out.block _ (by omega)), hI1, HB0.out.trans (Below.low HB1'.out (by omega))⟩
              · show _ = _
                have := hX.out
                rw [HDR.out, nB, if_neg h125] at this
                exact this
              · show _ = _
                have := hC.out
                rw [HDR.out, cB, if_neg h125] at this
                exact this
            case measure => exact HME.out _ hI1
      · have hpe : pos = s.size := by omega
        have hnx : ∀ ty, (Instr.next (.pointer (some ⟨w1.heap.size + 2, 0, none⟩)) true ty).run Tryz.prog wr = _ := fun ty => Lib.run_next_end_at wr (w1.heap.size + 2) s pos ty hI.out hp
        have hd : s.data.toList.drop pos = [] := List.drop_of_length_le (by rw [size_list]; omega)
        have e1 := hX.out
        have e2 := hC.out
        rw [hd, (nB_nil iv).1, List.append_nil] at e1
        rw [hd, (nB_nil iv).2, Nat.add_zero] at e2
        have HST := Lib.hid (Tryz.Builder_String_any_k w.heap.size w.heap.size x wr hT.out.builder hszB)
        clear hX hC hV hF hM hI
        go_wp2_with fail
        refine HST.out.mono ?_
        rintro e w3 ⟨rfl, _, hb3, _⟩
        go_wp2_with fail
        go_ret3
        refine ⟨⟨.map (some w1.heap.size), ?_⟩, hB.out.trans hb3⟩
        rw [← e1, ← e2]
        rfl
end Go.Proofs.YtpdnjgbcnnjdiaaGreatDoor
