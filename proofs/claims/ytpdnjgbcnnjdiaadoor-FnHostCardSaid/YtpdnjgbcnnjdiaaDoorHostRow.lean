/- laws.FnHost's tied card: for every host and both values of the flag the law answers true, and its arguments read behind the call as they read before. Its conditions are the row's own: the four listed package variables hold what their initialisers lay (tied to the program's text). -/
import Derived.Test.YtpdnjgbcnnjdiaaDoorRows
import Derived.Test.YtpdnjgbcnnjdiaaDoorHostLaw
import Derived.ProofKit
import Derived.LaidMore
import Derived.Lay
import Derived.SevenTiedAt
import Derived.Test.YtpdnjgbcnnjdiaaDoorTie
import Derived.Test.YtpdnjgbcnnjdiaaDoorCards
import Derived.OpenShut
import Derived.Stop.Joined
import Derived.Stop.LaidErr
import Derived.Lib.LaidTab
namespace Go.Proofs.YtpdnjgbcnnjdiaaDoor
open Go Go.ChangeMaps Go.ChangeShapes Go.WideShapes Go.ChangeAt Go.RowKit

theorem own : ownKnob Tryd.prog.godebug = none := by kernel_rfl
theorem gSpace : Tryd.prog.globalNamed "strings.asciiSpace" = some 0 := by kernel_rfl
theorem tSpace : (Tryd.prog.globals[0]?).map (·.type) = some 104 := by kernel_rfl
theorem cellsU8 : Tryd.prog.cellsOf 5 = 1 := by kernel_rfl
theorem cellsTab : Tryd.prog.cellsOf 104 = 256 := by kernel_rfl

abbrev laidL : List (String × DataW Unit) := Rows.fnHostRow.laid

theorem var_below {P : Program} {w w' : World} {n : String} {g B : Nat} {cs : Array Value} (h : w.var? P n = some cs) (hg : P.globalNamed n = some g) (hb : Below B w w') (hlt : g < B) : w'.var? P n = some cs := by
  unfold World.var? at h ⊢
  rw [hg] at h ⊢
  simp only [Option.bind_some] at h ⊢
  rw [hb.block g hlt]
  exact h

theorem lt_of_cell {w : World} {b o : Nat} {v : Value} (h : w.cell? ⟨b, o, none⟩ = some v) : b < w.heap.size := by
  unfold World.cell? at h
  rcases Nat.lt_or_ge b w.heap.size with hb | hb
  · exact hb
  · rw [Array.getElem?_eq_none hb] at h
    cases h
/-- What the condition gives the walks: the table, in this world and in all later ones. -/
theorem tab_of_laid {W : World} (h : laidMetH Tryd.prog laidL W) : Hid (∀ V, Below W.heap.size W V → Lib.TabIs Tryd.prog V "strings.asciiSpace" .u8 Lib.asciiSpaceTab) := by
  rw [MakeChecks.laidMetH_plain _ _ _ (by kernel_rfl)] at h
  have h2 : laidMet Tryd.prog [("strings.asciiSpace", Rows.laid_strings_asciiSpace), ("unicode/utf8.first", Rows.laid_unicode_utf8_first)] W := Go.laidMet.tail (Go.laidMet.tail h)
  rw [show (Rows.laid_strings_asciiSpace : DataW Unit) = Lib.tabData .u8 Lib.asciiSpaceTab from by kernel_rfl] at h2
  have ht : Lib.TabIs Tryd.prog W "strings.asciiSpace" .u8 Lib.asciiSpaceTab := Lib.tabIs_of_head gSpace tSpace Tryd.underlying104 Tryd.underlying5 cellsU8 cellsTab h2
  have hlt : 0 < W.heap.size := by
    have := ht.cell gSpace 0 (by rw [show Lib.asciiSpaceTab.length = 256 from by kernel_rfl]; omega)
    exact lt_of_cell this
  exact Lib.hid fun V hV => var_below ht gSpace hV hlt

set_option maxRecDepth 100000 in
set_option maxHeartbeats 4000000 in
theorem host_lifted (os : Os) (started : os.Started) (H : Type) (enc : TypeId × Value → H) :
    ReturnsInHanded {} Tryd.checked os 6 .any (fun w args => (Rows.fnHostSpec.pre enc Tryd.prog Tryd.f6 Rows.fnHostRow.domain false w args ∧ laidMetH Tryd.prog laidL w) ∧ sizedMet enc Tryd.prog Tryd.f6 (OpenSpec.ofChange Rows.fnHostSpec) false w args)
      (Rows.fnHostSpec.post enc Tryd.prog Tryd.f6 false true false false) := by
  refine returnsInHanded_of_change_and (C := Tryd.checked) (X := fun w _ => laidMetH Tryd.prog laidL w) (fun _ _ _ hh h => h.of_heap hh) own started (by kernel_rfl) Tryd.func6
    (ChangeSpec.witness_shaped (enc := enc) (C := Tryd.checked) (os := os) (X := fun w _ => laidMetH Tryd.prog laidL w) false (World.laidAll Tryd.prog os laidL) #[.string ⟨#[]⟩, .bool false] 8 (World.laidAll_os _ _ _)
      (World.shaped_of_ZipB (by kernel_rfl) (by kernel_rfl)) (by kernel_rfl) (by kernel_rfl) (by kernel_rfl)
      (by rw [MakeChecks.laidMetH_plain _ _ _ (by kernel_rfl)]; exact laidMet_laidAll _ (by kernel_rfl) (by kernel_rfl))) ?_
  intro W base args ds gs before hval0 hW hc _ hL _
  have hval : ∀ (j : Nat) t v, Tryd.f6.params[j]? = some t → args[j]? = some v → Value.okWide Tryd.prog W .any base t v := hval0
  have hW' := hW
  obtain ⟨p, q, hA0, hV, rfl, _, _⟩ := hW
  have hA : DataW.TrodAll enc Tryd.prog W 0 (fun _ => true) true Tryd.f6.params.toList args.toList ds p := hA0
  rw [Tryd.params6] at hA hval
  obtain ⟨v0, v1, d0, d1, p0, p1, rfl, rfl, rfl, h0, h1⟩ := trodAll_two hA
  obtain ⟨rfl, rfl⟩ := trodVars_none hV
  obtain ⟨s, rfl, rfl, rfl, ws⟩ := open_string Tryd.underlying9 (hval 0 9 v0 rfl rfl) h0
  obtain ⟨d, rfl, rfl, rfl⟩ := open_bool Tryd.underlying4 (hval 1 4 v1 rfl rfl) h1
  have hTab := tab_of_laid hL
  clear hA0 hval0
  simp only [List.append_nil] at hW'
  refine (hostLaw s d W hTab).mono fun e W' ⟨he, bel⟩ => ?_
  subst he
  have e1 : Rows.fnHostSpec.fn H ([.lit (.string s.data.toList), .lit (.bool d)] ++ []) = { results := [.lit (.bool true)], args := [.lit (.string s.data.toList), .lit (.bool d)] } := by simp [Rows.fnHostSpec]
  refine ⟨_, rfl, _, _, _, [], [], [], hW', ?_, ?_, ?_, bel.frame _, fun h => by cases h⟩
  · rw [e1]; exact trodAll_mk1 (shut_bool Tryd.underlying4 true)
  · rw [e1]; exact trodAll_mk2 (shut_string Tryd.underlying9 ws) (shut_bool Tryd.underlying4 d)
  · rw [e1]; rfl

theorem fnHost_row : Rows.FnHostSaid :=
  OpenClaim.holds_of_wide 6 Tryd.f6 rfl rfl rfl rfl rfl rfl rfl ⟨rfl, rfl, rfl, rfl, rfl⟩ rfl rfl rfl rfl rfl (by kernel_rfl) Tryd.func6 (by kernel_rfl)
    (of_decide_eq_true (by kernel_rfl)) (by unfold Func.isWrapper; first | (rw [if_pos (by decide +kernel)]; kernel_rfl) | (rw [if_neg (by decide +kernel)]; exact ⟨rfl, rfl⟩))
    (fun os started H enc _ => host_lifted os started H enc)

theorem fnHost_holds : Rows.FnHostCardSaid :=
  Claim7.holds_tied_plain_at .later [] [.data, .listed, .data, .pinned] true (true, "1285d4cd8f2b10cd24bc4ab4c3eb5665fe414fa04107f88c61256efe7c5c6ef9") true fnHost_row (fun _ h => by cases h) (by kernel_rfl) (fun _ h => by cases h) fnHost_row_tie rfl ⟨rfl, rfl⟩ (by kernel_rfl) rfl
    (fun f fn hf hfn => by
      obtain rfl : f = 6 := Option.some.inj ((show Tryd.prog.funcNamed "pub-indiction/laws.FnHost" = some 6 by kernel_rfl).symm.trans hf) |>.symm
      obtain rfl : fn = Tryd.f6 := (Option.some.inj (Tryd.func6.symm.trans hfn)).symm
      exact ⟨by kernel_rfl, fun j t ht => by
        rw [Tryd.params6] at ht
        have hm : t ∈ [9, 4] := by simpa using Array.mem_of_getElem? ht
        have hall : ([9, 4].all fun u => !Tryd.prog.wantsStandIn u) = true := by kernel_rfl
        exact (show Tryd.prog.wantsStandIn t = false by simpa using List.all_eq_true.1 hall t hm)⟩)
    (by kernel_rfl)
#print axioms fnHost_holds
end Go.Proofs.YtpdnjgbcnnjdiaaDoor
