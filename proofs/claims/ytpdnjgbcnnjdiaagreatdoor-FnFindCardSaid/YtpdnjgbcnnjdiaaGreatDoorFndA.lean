/- Paths.Value; Paths.Map whatever its size; componentNames. -/
import Derived.Test.YtpdnjgbcnnjdiaaGreatDoorPathsMap
import Derived.Test.YtpdnjgbcnnjdiaaGreatDoorSort
import Derived.Test.YtpdnjgbcnnjdiaaGreatDoorLays2
import Derived.Sort.OwnSorted
namespace Go.Proofs.YtpdnjgbcnnjdiaaGreatDoor
open Go Go.RowKit Go.Sort Go.Maps Go.MapKept Go.ChangeMaps Go.WideMaps
open Go.Proofs (encStr)
set_option linter.unusedVariables false
set_option linter.unusedSimpArgs false

theorem zeroPI (w : World) : (zeroValue 35).run Tryz.prog w = .ok (.pointer none) w := by kernel_rfl
theorem lookItem {mb n base : Nat} {D : DataW Unit} {L : List Bs} {w : World} (hm : PMap w mb n D) (hP : PHas w base D L) (k : ByteArray) (hk : k.size ≤ maxLen) :
    ∃ v, (Instr.lookup 55 (.map (some mb)) (.string k) false).run Tryz.prog w = .ok v w ∧ (k.data.toList ∈ L → ∃ b, v = .pointer (some ⟨b, 0, none⟩) ∧ w.heap[b]? = some (.cells #[.string k] 40 (0, 0))) ∧ (k.data.toList ∉ L → v = .pointer none) := by
  obtain ⟨v, ps, hrun, hv⟩ := World.ownsMap.lookup hm lawS Tryz.underlying55 (zeroPI w) (show ptrElem (.pointer none) = some (.lit (.bool false), []) from rfl) (keyOf_string_mk Tryz.underlying9 hk)
  refine ⟨v, hrun, fun hin => ?_, fun hin => ?_⟩
  · obtain ⟨b, h1, _, h3⟩ := hP.refs _ hin
    rw [h1] at hv
    obtain ⟨o, rfl, he, _⟩ := ptrElem_inv hv
    cases o with
    | none => simp at he
    | some b' =>
      have hbb : b = b' := by
        have he' : (b : Int) = (b' : Int) := by simpa using he
        omega
      subst hbb
      exact ⟨b, rfl, by rw [h3, mkS_self]⟩
  · have hh : Maps.has D (.string k.data.toList) = false := by
      cases h : Maps.has D (.string k.data.toList) with
      | false => rfl
      | true => exact absurd ((hP.keys _).1 h) hin
    rw [atKey_of_not_has hh] at hv
    obtain ⟨o, rfl, he, _⟩ := ptrElem_inv hv
    cases o with
    | none => rfl
    | some b' => simp at he

theorem size_zero_has {w : World} {mb n : Nat} {D : DataW Unit} (hm : PMap w mb n D) (h : Maps.size D = 0) : D = .map [] := by
  obtain ⟨es, clock, hb, F, _, rfl⟩ := hm
  rw [Maps.size_eq] at h
  rw [List.length_eq_zero_iff.1 h]

set_option maxRecDepth 100000 in
theorem valueItem {pb mb n base : Nat} {D : DataW Unit} {L : List Bs} {w : World} (ho : PObj w pb mb) (hm : PMap w mb n D) (hP : PHas w base D L) (k : ByteArray) (hk : k.size ≤ maxLen) :
    Calls Tryz.prog 22 #[.pointer (some ⟨pb, 0, none⟩), .string k] w fun e w' => ∃ v, e = .returned v ∧ w' = w ∧ (k.data.toList ∈ L → ∃ b, v = .pointer (some ⟨b, 0, none⟩) ∧ w.heap[b]? = some (.cells #[.string k] 40 (0, 0))) ∧ (k.data.toList ∉ L → v = .pointer none) := by
  have c2 := PObj.cell ho
  have HL := Lib.hid (lenItems pb mb n D w ho hm)
  obtain ⟨v, hlook, hv1, hv2⟩ := lookItem hm hP k hk
  have HV1 := Lib.hid hv1
  have HV2 := Lib.hid hv2
  clear hv1 hv2
  by_cases hz : Maps.size D = 0
  · have hD := size_zero_has hm hz
    have hz1 : ((Maps.size D : Int) == 0) = true := by simpa using hz
    go_enter Tryz.func22, Tryz.ntmps22
    go_wp2_with fail
    refine HL.out.mono ?_
    rintro e w' ⟨rfl, rfl⟩
    go_wp2_with fail
    go_ret
    refine ⟨_, rfl, rfl, fun hin => ?_, fun _ => rfl⟩
    have := (hP.keys _).2 hin
    rw [hD] at this
    simp [Maps.has] at this
  · have hz1 : ((Maps.size D : Int) == 0) = false := by simpa using hz
    go_enter Tryz.func22, Tryz.ntmps22
    go_wp2_with fail
    refine HL.out.mono ?_
    rintro e w' ⟨rfl, rfl⟩
    go_wp2_with fail
    go_ret
    exact ⟨_, rfl, rfl, HV1.out, HV2.out⟩

set_option maxRecDepth 100000 in
theorem mapItems0 (pb mb n : Nat) (D : DataW Unit) (w : World) (ho : PObj w pb mb) (hm : PMap w mb n D) (hn : n ≤ 1000000) :
    Calls Tryz.prog 24 #[.pointer (some ⟨pb, 0, none⟩)] w fun e w' => e = .returned (.map (some w.heap.size)) ∧ PMap w' w.heap.size (Maps.size D) D ∧ w.grownBy w' none := by
  by_cases hz : Maps.size D = 0
  · have hD := size_zero_has hm hz
    have c2 := PObj.cell ho
    have hnil := mapNil mb
    have hmm := @run_makeMap Tryz.prog
    have hz0 : ((Maps.size D : Int) = 0) = True := eq_true (by omega)
    have hz1 : ((Maps.size D : Int) == 0) = true := by simpa using hz
    have hlen := World.ownsMap.len hm Tryz.underlying55 3
    go_enter Tryz.func24, Tryz.ntmps24
    go_wp2_with fail
    go_ret
    refine ⟨rfl, ?_, World.grownBy_alloc _ _ _⟩
    rw [hz, hD]
    exact World.ownsMap_made _ _ _ _
  · exact mapItems pb mb n D w ho hm hn (by omega)

theorem row_ne_map' {w : World} {B e size n vb K : Nat} {v : Value} {xs : List Value} {k : TypeId} {R : Value → Option (DataW Unit × List MemPlace)} {D : DataW Unit} (h : w.ownsRow B e size v n xs) (hm : w.ownsMap Tryz.prog k R vb K D) : v.ownBlock ≠ some vb := by
  obtain ⟨es, clock, hb, _⟩ := hm
  rcases h.2 with ⟨rfl, _⟩ | ⟨g, cap, cur, rfl, _, hg, _⟩
  · simp [Value.ownBlock]
  · intro he
    simp only [Value.ownBlock, Option.some.injEq] at he
    subst he
    rw [hg] at hb
    cases hb
theorem infoStrF : (Tryz.prog.info? 9).map (fun i => (i.zero, i.size, i.bytes)) = some (some (.string ⟨#[]⟩), 1, 16) := by kernel_rfl
theorem sortNames (g cap B : Nat) (ss : List Bs) (w : World) (h : w.ownsRow B 9 1 (.slice (some ⟨g, 0, none⟩) ss.length cap) ss.length (strs ss)) (hl : ss.length ≤ 1000) :
    Calls Tryz.prog 36 #[.slice (some ⟨g, 0, none⟩) ss.length cap] w fun e w' =>
      e = .returned (.tuple #[]) ∧ ∃ ts : List Bs, ts.Perm ss ∧ w'.ownsRow B 9 1 (.slice (some ⟨g, 0, none⟩) ss.length cap) ss.length (strs ts) ∧ w.grownBy w' (some g) := by
  rcases h.2 with ⟨hnil, _⟩ | ⟨g', cap', cur, he, hbase, hb, h1, h2, h3, h4⟩
  · simp at hnil
  simp only [Value.slice.injEq, Option.some.injEq, Addr.mk.injEq, and_true, true_and] at he
  obtain ⟨rfl, rfl⟩ := he
  have hs := Tryz.slices_Sort_string g 0 cap ss w (holds_of_block hb (by rw [Nat.mul_one] at h4; rw [h4]; rfl)) (Array.getElem?_eq_some_iff.1 hb).1 (by omega)
  refine hs.mono fun e w' hh => ?_
  obtain ⟨he, n, os, hw⟩ := hh
  subst hw
  have hp : (ss.mergeSort fun x y => decide (x ≤ y)).Perm ss := List.mergeSort_perm _ _
  exact ⟨he, _, hp, ownsRow_sorted hp.length_eq hbase hb h1 h2 h3, grownBy_sorted _⟩

set_option maxHeartbeats 2000000 in
set_option maxRecDepth 100000 in
theorem compNames (b n : Nat) (D : DataW Unit) (w : World) (hm : PMap w b n D) (hn : n ≤ 1000) :
    Calls Tryz.prog 25 #[.map (some b)] w fun e w' => ∃ g cap o, e = .returned (.slice (some ⟨g, 0, none⟩) o.length cap) ∧ w'.ownsRow w.heap.size 9 1 (.slice (some ⟨g, 0, none⟩) o.length cap) o.length (strs o) ∧ o.Nodup ∧ (∀ s, s ∈ o ↔ Maps.has D (.string s) = true) ∧ o.length ≤ Maps.size D ∧ w.grownBy w' none := by
  have hbl := World.ownsMap.lt hm
  have hszn := World.ownsMap.size_le hm
  have hlen := World.ownsMap.len hm Tryz.underlying55 3
  obtain ⟨i0, hi, hz0, hz1, hz2⟩ := info_parts infoStrF
  have HM := Lib.hid hm
  clear hm
  go_enter Tryz.func25, Tryz.ntmps25
  go_wp2_with (first
    | (at_make; refine wpList_make_own _ rfl _ _ 22 rfl w.heap.size 9 i0 (.string ⟨#[]⟩) 1 Tryz.underlying22 hi hz0 hz1 .i64 .i64 _ (Maps.size D) rfl rfl rfl (by rw [hz2]; omega) (by unfold maxLen; omega) (Nat.le_refl _) ?_; intro w1 hown1 hg1; have hm1 := World.ownsMap.kept HM.out hg1 (by simp))
    | (at_range; refine wpList_range_own _ rfl _ 55 rfl 9 35 lawS Tryz.underlying55 _ b _ _ rfl hm1 ?_; intro w0 hrg0 hg0 hs0)
    | go_in)
  go_frame
  have HRG := Lib.hid hrg0
  have HO0 := Lib.hid (hown1.kept hg0 (.inr (by simp [Value.ownBlock])))
  have HG0 := Lib.hid (grownBy_trans hg1 hg0)
  have hsz1 : w.heap.size < w1.heap.size := (hown1.lt _ rfl).2
  clear hrg0 hg0 hs0 hown1 hg1 hm1
  go_loopw [3] (fun v2 wr => ∃ (left : Lit → Bool) (cnt g cap : Nat) (ss : List Bs), v2 = .slice (some ⟨g, 0, none⟩) ss.length cap ∧ ss.length + cnt ≤ Maps.size D ∧ Hid (wr.ranges Tryz.prog 9 ptrElem b w1.heap.size n D left cnt) ∧ Hid (Collected D left ss) ∧ Hid (wr.ownsRow w.heap.size 9 1 v2 ss.length (strs ss)) ∧ Hid (w.grownBy wr none))
    (fun _ wr => wr.rangeLeft b w1.heap.size)
  case atStart =>
    exact ⟨_, _, _, _, [], rfl, by simp, HRG, Collected.start D, HO0, HG0⟩
  case round =>
    obtain ⟨left, cnt, g, cap, ss, rfl, hcs, hrg, hC, hO, hG⟩ := hrel
    go_wp2_with (first
      | (at_next; refine wpList_next_ranges _ rfl _ rfl 9 lawS ptrElem encStr (fun o : Option Nat => Value.pointer (o.map fun b => ⟨b, 0, none⟩)) (fun key kl h => strS h) ptrV b w1.heap.size _ D left cnt rfl hrg.out ?_ ?_)
      | go_in)
    · intro hc0 hl0
      have HL0 := Lib.hid hl0
      have HST := Lib.hid (sortNames g cap w.heap.size ss wr hO.out (by omega))
      clear hl0 hrg
      go_wp2_with fail
      refine HST.out.mono ?_
      rintro e w2 ⟨rfl, ts, hp, hown2, hg2⟩
      have HP := Lib.hid hp
      have HO2 := Lib.hid hown2
      have HG2 := Lib.hid hg2
      have htl : ts.length = ss.length := hp.length_eq
      clear hp hown2 hg2
      go_wp2_with fail
      go_ret
      refine ⟨g, cap, ts, by rw [htl]; rfl, by rw [htl]; exact HO2.out, HP.out.nodup_iff.2 hC.out.1, fun s => ?_, by omega, grownBy_new hG.out HG2.out (fun j hj => by cases hj; exact .inl (hO.out.lt g rfl).1)⟩
      rw [HP.out.mem_iff, hC.out.2, HL0.out]
      simp
    · intro x o kl yd yp w2 cnt1 hkey hlk hv hat hrg1 hlt hg1 hs1 hen
      obtain ⟨x', ex, rfl, hxl⟩ := Maps.keyOf_str Tryz.underlying9 hkey
      obtain rfl : x = x' := encStr_inj ex
      have HC1 := Lib.hid (hC.out.step hlk hat)
      have HO2 := Lib.hid (hO.out.kept hg1 (.inr (fun e => row_ne_iter hO.out hrg.out e.symm)))
      have HR2 := Lib.hid hrg1
      have HG2 := Lib.hid (grownBy_new hG.out hg1 (fun j hj => by cases hj; exact .inl (by omega)))
      have HLT := Lib.hid hlt
      have hb0 : w.heap.size ≤ w2.heap.size := HG2.out.size
      clear hkey hlk hv hat hrg1 hlt hg1 hs1 ex
      go_wp2_with (first
        | (at_builtin; refine wpList_append_keep _ rfl _ _ 22 rfl w.heap.size 9 i0 (.string ⟨#[]⟩) 1 16 Tryz.underlying22 hi hz0 hz1 hz2 rfl (by decide) _ ss.length (strs ss) rfl (HO2.out.alloc _) ⟨_, 0, none⟩ 1 1 (by decide) [.string (mkS x)] rfl rfl (cell_one_new _ _ _) (by intro u hu; simp at hu; subst hu; rfl) (by omega) (by decide) (by simp; omega) ?_; intro v' w4 hown4 hg4 _ hloc4; have HX := Lib.hid (And.intro hown4 (And.intro hg4 hloc4)); clear hown4 hg4 hloc4)
        | go_in)
      go_roundw
      case rel =>
        obtain ⟨hown4, hg4, hloc4⟩ := HX.out
        have hform : ∃ g' cap', v' = .slice (some ⟨g', 0, none⟩) (ss.length + 1) cap' := by
          rcases hown4.2 with ⟨_, h0⟩ | ⟨g', cap', _, hv, _⟩
          · omega
          · exact ⟨g', cap', hv⟩
        obtain ⟨g', cap', rfl⟩ := hform
        have hrg2 := (HR2.out.alloc (.cells #[.string (mkS x)] 9)).kept hg4 (fun e => row_ne_map' HO2.out HR2.out.owns e.symm) (fun e => row_ne_iter HO2.out HR2.out e)
        refine ⟨_, cnt1, g', cap', ss ++ [x], by simp, by have := HLT.out; rw [List.length_append, List.length_singleton]; omega, hrg2, HC1, ?_, ?_⟩
        · show World.ownsRow _ _ _ _ _ _ _
          rw [List.length_append, List.length_singleton]
          have : strs (ss ++ [x]) = strs ss ++ [.string (mkS x)] := by simp [strs]
          rw [this]
          exact hown4
        · exact grownBy_new (grownBy_alloc' HG2.out _) hg4 (fun j hj => .inl (HO2.out.lt j hj).1)
      case measure =>
        obtain ⟨hown4, hg4, hloc4⟩ := HX.out
        have hrg2 := (HR2.out.alloc (.cells #[.string (mkS x)] 9)).kept hg4 (fun e => row_ne_map' HO2.out HR2.out.owns e.symm) (fun e => row_ne_iter HO2.out HR2.out e)
        rw [hrg2.left_eq, hrg.out.left_eq]
        exact HLT.out
end Go.Proofs.YtpdnjgbcnnjdiaaGreatDoor
