/- laws.FnFind's tied card: for every list of texts and every path the law answers true, and its arguments read behind the call as they read before. Its conditions are the row's own: the four listed package variables hold what their initialisers lay (tied to the program's text by seat's Tie). -/
import Derived.Test.YtpdnjgbcnnjdiaaGreatDoorRows
import Derived.Test.YtpdnjgbcnnjdiaaGreatDoorRouted
import Derived.ProofKit
import Derived.LaidMore
import Derived.Lay
import Derived.SevenTiedAt
import Derived.Test.YtpdnjgbcnnjdiaaGreatDoorTie
import Derived.Test.YtpdnjgbcnnjdiaaGreatDoorCards
import Derived.OpenShut
import Derived.Stop.Joined
import Derived.Stop.LaidErr
import Derived.Lib.LaidTab
import Derived.Deep.SlicePairs
import Derived.SliceStrings
import Derived.Carry
import Derived.Test.YtpdnjgbcnnjdiaaGreatDoorFndE
namespace Go.Proofs.YtpdnjgbcnnjdiaaGreatDoor
open Go Go.ChangeMaps Go.ChangeShapes Go.WideShapes Go.ChangeAt Go.RowKit

theorem own : ownKnob Tryz.prog.godebug = none := by kernel_rfl
theorem gSpace : Tryz.prog.globalNamed "strings.asciiSpace" = some 0 := by kernel_rfl
theorem tSpace : (Tryz.prog.globals[0]?).map (·.type) = some 129 := by kernel_rfl
theorem cellsU8 : Tryz.prog.cellsOf 5 = 1 := by kernel_rfl
theorem cellsTab : Tryz.prog.cellsOf 129 = 256 := by kernel_rfl

abbrev laidL : List (String × DataW Unit) := Rows.fnFindRow.laid

theorem var_below {P : Program} {w w' : World} {n : String} {g B : Nat} {cs : Array Value} (h : w.var? P n = some cs) (hg : P.globalNamed n = some g) (hb : Below B w w') (hlt : g < B) : w'.var? P n = some cs := by
  unfold World.var? at h ⊢
  rw [hg] at h ⊢
  simp only [Option.bind_some] at h ⊢
  rw [hb.block g hlt]
  exact h

theorem lt_of_cell {w : World} {b o : Nat} {v : Value} (h : w.cell? ⟨b, o, none⟩ = some v) : b < w.heap.size := by
  unfold World.cell? at h
  rcases Nat.lt_or_ge b w.heap.size with hb | hb
  · exact hb
  · rw [Array.getElem?_eq_none hb] at h
    cases h
/-- What the condition gives the walks: the table, in this world and in all later ones. -/
theorem tab_of_laid {W : World} (h : laidMetH Tryz.prog laidL W) : Hid (∀ V, Below W.heap.size W V → Lib.TabIs Tryz.prog V "strings.asciiSpace" .u8 Lib.asciiSpaceTab) := by
  rw [MakeChecks.laidMetH_plain _ _ _ (by kernel_rfl)] at h
  have h2 : laidMet Tryz.prog [("strings.asciiSpace", Rows.laid_strings_asciiSpace), ("unicode/utf8.first", Rows.laid_unicode_utf8_first)] W := Go.laidMet.tail (Go.laidMet.tail h)
  rw [show (Rows.laid_strings_asciiSpace : DataW Unit) = Lib.tabData .u8 Lib.asciiSpaceTab from by kernel_rfl] at h2
  have ht : Lib.TabIs Tryz.prog W "strings.asciiSpace" .u8 Lib.asciiSpaceTab := Lib.tabIs_of_head gSpace tSpace Tryz.underlying129 Tryz.underlying5 cellsU8 cellsTab h2
  have hlt : 0 < W.heap.size := by
    have := ht.cell gSpace 0 (by rw [show Lib.asciiSpaceTab.length = 256 from by kernel_rfl]; omega)
    exact lt_of_cell this
  exact Lib.hid fun V hV => var_below ht gSpace hV hlt
open Go.Proofs.YtpdnjgbcnnjdiaaGreatDoorW.PrintWords Go.Proofs.YtpdnjgbcnnjdiaaGreatDoor.PFnFind
theorem laidOut : laidOutB Tryz.prog = true := by kernel_rfl
set_option maxRecDepth 100000 in
theorem open_texts {H : Type} {enc : TypeId × Value → H} {W : World} {v : Value} {d : DataW H} {ps : List MemPlace} {base : Nat} (ho : Value.okWide Tryz.prog W .any base 22 v) (h : DataW.Trod enc Tryz.prog W 0 (fun _ => true) true 22 v d ps) :
    ∃ (A : Option Addr) (c : Nat) (l : List ByteArray), v = .slice A l.length c ∧ l.length ≤ c ∧ Kd.C Kd.string W A l.length l := by
  obtain ⟨a0, l0, c0, rfl⟩ := okWide_slice Tryz.underlying22 ho
  obtain ⟨fuel, hf⟩ := h
  rcases open_strings Tryz.underlying22 Tryz.underlying9 (by kernel_rfl) hf with ⟨hv, _⟩ | ⟨a, len, cap, ss, hv, _, hl, hm, hmm, _, hx, _⟩
  · refine ⟨none, 0, [], ?_, Nat.le_refl _, Kd.C_nil _ _⟩
    simpa [Value.cells] using hv
  · have hmc : ss.length = cap := by simpa using hmm
    have hlt : (ss.take len).length = len := by rw [List.length_take]; omega
    refine ⟨some a, cap, ss.take len, ?_, by omega, rfl, ?_, fun _ => ⟨a, rfl, fun j p hj => ?_⟩⟩
    · rw [hlt]; simpa [Value.cells] using hv
    · unfold maxLen at hm; omega
    · have hjl : j < len := by
        have := (List.getElem?_eq_some_iff.1 hj).1
        omega
      rw [List.getElem?_take_of_lt hjl] at hj
      refine ⟨[.string p], rfl, rfl, fun i u hu => ?_⟩
      have := hx j (by omega)
      match i, hu with
      | 0, hu =>
        simp at hu
        subst hu
        show W.cell? (a.add (j * 1 + 0)) = _
        rw [show j * 1 + 0 = j from by omega, this]
        rw [List.getD_eq_getElem?_getD, hj]
        rfl

set_option maxRecDepth 100000 in
set_option maxHeartbeats 4000000 in
theorem find_lifted (os : Os) (started : os.Started) (H : Type) (enc : TypeId × Value → H) :
    ReturnsInHanded {} Tryz.checked os 3 .any (fun w args => (Rows.fnFindSpec.pre enc Tryz.prog Tryz.f3 Rows.fnFindRow.domain false w args ∧ laidMetH Tryz.prog laidL w) ∧ sizedMet enc Tryz.prog Tryz.f3 (OpenSpec.ofChange Rows.fnFindSpec) false w args)
      (Rows.fnFindSpec.post enc Tryz.prog Tryz.f3 false true false false) := by
  refine returnsInHanded_of_change_and (C := Tryz.checked) (X := fun w _ => laidMetH Tryz.prog laidL w) (fun _ _ _ hh h => h.of_heap hh) own started (by kernel_rfl) Tryz.func3
    (ChangeSpec.witness_shaped (enc := enc) (C := Tryz.checked) (os := os) (X := fun w _ => laidMetH Tryz.prog laidL w) false (World.laidAll Tryz.prog os laidL) #[.slice none 0 0, .string ⟨#[]⟩] 8 (World.laidAll_os _ _ _)
      (World.shaped_of_ZipB (by kernel_rfl) (by kernel_rfl)) (by kernel_rfl) (by kernel_rfl) (by kernel_rfl)
      (by rw [MakeChecks.laidMetH_plain _ _ _ (by kernel_rfl)]; exact laidMet_laidAll _ (by kernel_rfl) (by kernel_rfl))) ?_
  intro W base args ds gs before hval0 hW hc _ hL _
  have hval : ∀ (j : Nat) t v, Tryz.f3.params[j]? = some t → args[j]? = some v → Value.okWide Tryz.prog W .any base t v := hval0
  have hW' := hW
  obtain ⟨p, q, hA0, hV, rfl, _, _⟩ := hW
  have hA : DataW.TrodAll enc Tryz.prog W 0 (fun _ => true) true Tryz.f3.params.toList args.toList ds p := hA0
  rw [Tryz.params3] at hA hval
  obtain ⟨v0, v1, d0, d1, p0, p1, rfl, rfl, rfl, h0, h1⟩ := trodAll_two hA
  obtain ⟨rfl, rfl⟩ := trodVars_none hV
  have lt0 : ∀ x ∈ p0, x.block < W.heap.size := by obtain ⟨m, hm⟩ := h0; exact DataW.trod_lt m _ _ _ hm
  have k0 := h0
  obtain ⟨A, c, l, rfl, hlc, hC⟩ := open_texts (hval 0 22 v0 rfl rfl) h0
  obtain ⟨s, rfl, rfl, rfl, ws⟩ := open_string Tryz.underlying9 (hval 1 9 v1 rfl rfl) h1
  have hTab := tab_of_laid hL
  clear hA0 hval0
  simp only [List.append_nil] at hW'
  refine (findLaw A c l s W hC hlc hTab).mono fun e W' ⟨he, bel⟩ => ?_
  subst he
  have e1 : Rows.fnFindSpec.fn H ([d0, .lit (.string s.data.toList)] ++ []) = { results := [.lit (.bool true)], args := [d0, .lit (.string s.data.toList)] } := by simp [Rows.fnFindSpec]
  refine ⟨_, rfl, _, _, _, [], p0, [], hW', ?_, ?_, ?_, bel.frame _, fun h => by cases h⟩
  · rw [e1]; exact trodAll_mk1 (shut_bool Tryz.underlying4 true)
  · rw [e1]; have t2 := trodAll_mk2 (Below.trod laidOut (by kernel_rfl) (of_decide_eq_true (by kernel_rfl)) k0 bel lt0) (shut_string Tryz.underlying9 ws); rw [List.append_nil] at t2; exact t2
  · rw [e1]; rfl

theorem fnFind_row : Rows.FnFindSaid :=
  OpenClaim.holds_of_wide 3 Tryz.f3 rfl rfl rfl rfl rfl rfl rfl ⟨rfl, rfl, rfl, rfl, rfl⟩ rfl rfl rfl rfl rfl (by kernel_rfl) Tryz.func3 (by kernel_rfl)
    (of_decide_eq_true (by kernel_rfl)) (by unfold Func.isWrapper; first | (rw [if_pos (by decide +kernel)]; kernel_rfl) | (rw [if_neg (by decide +kernel)]; exact ⟨rfl, rfl⟩))
    (fun os started H enc _ => find_lifted os started H enc)

theorem fnFind_holds : Rows.FnFindCardSaid :=
  Claim7.holds_tied_plain_at .later [] [.data, .listed, .data, .pinned] true (true, "f73f32f7bc1e281595cc45e3f6a880ed05d5e05e86f06c7f12bb60c6bc22fd61") true fnFind_row (fun _ h => by cases h) (by kernel_rfl) (fun _ h => by cases h) fnFind_row_tie rfl ⟨rfl, rfl⟩ (by kernel_rfl) rfl
    (fun f fn hf hfn => by
      obtain rfl : f = 3 := Option.some.inj ((show Tryz.prog.funcNamed "pub-indiction/laws.FnFind" = some 3 by kernel_rfl).symm.trans hf) |>.symm
      obtain rfl : fn = Tryz.f3 := (Option.some.inj (Tryz.func3.symm.trans hfn)).symm
      exact ⟨by kernel_rfl, fun j t ht => by
        rw [Tryz.params3] at ht
        have hm : t ∈ [22, 9] := by simpa using Array.mem_of_getElem? ht
        have hall : ([22, 9].all fun u => !Tryz.prog.wantsStandIn u) = true := by kernel_rfl
        exact (show Tryz.prog.wantsStandIn t = false by simpa using List.all_eq_true.1 hall t hm)⟩)
    (by kernel_rfl)
#print axioms fnFind_holds
end Go.Proofs.YtpdnjgbcnnjdiaaGreatDoor
