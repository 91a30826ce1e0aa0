/- From the reading of an argument to what the walks ask for: a list of pieces, a list of texts. -/
import Derived.Test.YtpdnjgbcnnjdiaaDoorRowBase
import Derived.Test.YtpdnjgbcnnjdiaaDoorPFnMatchBackx0
import Derived.Deep.SlicePairs
import Derived.SliceStrings
import Derived.Carry
namespace Go.Proofs.YtpdnjgbcnnjdiaaDoor
open Go Go.ChangeMaps Go.ChangeShapes Go.WideShapes Go.ChangeAt Go.RowKit Go.Proofs.YtpdnjgbcnnjdiaaDoorW.PrintWords Go.Proofs.YtpdnjgbcnnjdiaaDoor.PFnMatchBack

instance : Inhabited S33 := ⟨z33⟩
theorem laidOut : laidOutB Tryd.prog = true := by kernel_rfl
set_option maxRecDepth 100000 in
theorem open_pieces {H : Type} {enc : TypeId × Value → H} {W : World} {v : Value} {d : DataW H} {ps : List MemPlace} {base : Nat} (ho : Value.okWide Tryd.prog W .any base 30 v) (h : DataW.Trod enc Tryd.prog W 0 (fun _ => true) true 30 v d ps) :
    ∃ (A : Option Addr) (c : Nat) (l : List S33), v = .slice A l.length c ∧ l.length ≤ c ∧ Kd.C k33 W A l.length l := by
  obtain ⟨a0, l0, c0, rfl⟩ := okWide_slice Tryd.underlying30 ho
  obtain ⟨fuel, hf⟩ := h
  rcases Deep.open_slice_pairs Tryd.underlying30 Tryd.underlying33 (by kernel_rfl) rfl rfl (by kernel_rfl) (by kernel_rfl) hf with ⟨hv, _⟩ | ⟨a, len, cap, m, n, V0, V1, D0, D1, P0, P1, hv, _, hl, hm, hmm, _, hx⟩
  · refine ⟨none, 0, [], ?_, Nat.le_refl _, Kd.C_nil _ _⟩
    simpa [Value.cells] using hv
  · have hmc : m = cap := by simpa using hmm
    have each : ∀ i, i < m → ∃ x : S33, V0 i = .bool x.f0 ∧ V1 i = .string x.f1 := fun i hi => by
      obtain ⟨_, _, h0, h1⟩ := hx i hi
      obtain ⟨b, e1, _⟩ := DataW.trod_bool Tryd.underlying4 h0
      obtain ⟨s, e2, _⟩ := DataW.trod_string Tryd.underlying9 h1
      exact ⟨⟨b, s⟩, by simpa using e1, by simpa using e2⟩
    obtain ⟨q, hq⟩ := Deep.choose_lt each
    refine ⟨some a, cap, (List.range len).map q, ?_, by simpa using hl, by simp, ?_, fun _ => ⟨a, rfl, fun j p hj => ?_⟩⟩
    · simpa [Value.cells] using hv
    · simp only [List.length_map, List.length_range]
      unfold maxLen at hm
      omega
    · have hjl : j < len := by
        have := (List.getElem?_eq_some_iff.1 hj).1
        simpa using this
      have hp : p = q j := by
        rw [List.getElem?_map, List.getElem?_range hjl] at hj
        simpa using hj.symm
      subst hp
      refine ⟨[.bool (q j).f0, .string (q j).f1], rfl, k33_mk W _, fun i u hu => ?_⟩
      obtain ⟨g0, g1, _, _⟩ := hx j (by omega)
      obtain ⟨e0, e1⟩ := hq j (by omega)
      match i, hu with
      | 0, hu =>
        simp at hu
        subst hu
        rw [← e0]
        exact g0
      | 1, hu =>
        simp at hu
        subst hu
        rw [← e1]
        exact g1
set_option maxRecDepth 100000 in
theorem open_texts {H : Type} {enc : TypeId × Value → H} {W : World} {v : Value} {d : DataW H} {ps : List MemPlace} {base : Nat} (ho : Value.okWide Tryd.prog W .any base 22 v) (h : DataW.Trod enc Tryd.prog W 0 (fun _ => true) true 22 v d ps) :
    ∃ (A : Option Addr) (c : Nat) (l : List ByteArray), v = .slice A l.length c ∧ l.length ≤ c ∧ Kd.C Kd.string W A l.length l := by
  obtain ⟨a0, l0, c0, rfl⟩ := okWide_slice Tryd.underlying22 ho
  obtain ⟨fuel, hf⟩ := h
  rcases open_strings Tryd.underlying22 Tryd.underlying9 (by kernel_rfl) hf with ⟨hv, _⟩ | ⟨a, len, cap, ss, hv, _, hl, hm, hmm, _, hx, _⟩
  · refine ⟨none, 0, [], ?_, Nat.le_refl _, Kd.C_nil _ _⟩
    simpa [Value.cells] using hv
  · have hmc : ss.length = cap := by simpa using hmm
    have hlt : (ss.take len).length = len := by rw [List.length_take]; omega
    refine ⟨some a, cap, ss.take len, ?_, by omega, rfl, ?_, fun _ => ⟨a, rfl, fun j p hj => ?_⟩⟩
    · rw [hlt]; simpa [Value.cells] using hv
    · unfold maxLen at hm; omega
    · have hjl : j < len := by
        have := (List.getElem?_eq_some_iff.1 hj).1
        omega
      rw [List.getElem?_take_of_lt hjl] at hj
      refine ⟨[.string p], rfl, rfl, fun i u hu => ?_⟩
      have := hx j (by omega)
      match i, hu with
      | 0, hu =>
        simp at hu
        subst hu
        show W.cell? (a.add (j * 1 + 0)) = _
        rw [show j * 1 + 0 = j from by omega, this]
        rw [List.getD_eq_getElem?_getD, hj]
        rfl
end Go.Proofs.YtpdnjgbcnnjdiaaDoor
