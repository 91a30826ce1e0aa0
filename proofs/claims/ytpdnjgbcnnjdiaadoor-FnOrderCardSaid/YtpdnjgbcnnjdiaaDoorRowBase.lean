/- What all rows of this seat share: from the row's condition to the table that the walks ask for. -/
import Derived.Test.YtpdnjgbcnnjdiaaDoorRows
import Derived.Test.YtpdnjgbcnnjdiaaDoorRouted
import Derived.ProofKit
import Derived.LaidMore
import Derived.Lay
import Derived.SevenTiedAt
import Derived.Test.YtpdnjgbcnnjdiaaDoorTie
import Derived.Test.YtpdnjgbcnnjdiaaDoorCards
import Derived.OpenShut
import Derived.Stop.Joined
import Derived.Stop.LaidErr
import Derived.Lib.LaidTab
namespace Go.Proofs.YtpdnjgbcnnjdiaaDoor
open Go Go.ChangeMaps Go.ChangeShapes Go.WideShapes Go.ChangeAt Go.RowKit

theorem own : ownKnob Tryd.prog.godebug = none := by kernel_rfl
theorem gSpace : Tryd.prog.globalNamed "strings.asciiSpace" = some 0 := by kernel_rfl
theorem tSpace : (Tryd.prog.globals[0]?).map (·.type) = some 104 := by kernel_rfl
theorem cellsU8 : Tryd.prog.cellsOf 5 = 1 := by kernel_rfl
theorem cellsTab : Tryd.prog.cellsOf 104 = 256 := by kernel_rfl

abbrev laidL : List (String × DataW Unit) := Rows.fnHostRow.laid

theorem var_below {P : Program} {w w' : World} {n : String} {g B : Nat} {cs : Array Value} (h : w.var? P n = some cs) (hg : P.globalNamed n = some g) (hb : Below B w w') (hlt : g < B) : w'.var? P n = some cs := by
  unfold World.var? at h ⊢
  rw [hg] at h ⊢
  simp only [Option.bind_some] at h ⊢
  rw [hb.block g hlt]
  exact h

theorem lt_of_cell {w : World} {b o : Nat} {v : Value} (h : w.cell? ⟨b, o, none⟩ = some v) : b < w.heap.size := by
  unfold World.cell? at h
  rcases Nat.lt_or_ge b w.heap.size with hb | hb
  · exact hb
  · rw [Array.getElem?_eq_none hb] at h
    cases h
/-- What the condition gives the walks: the table, in this world and in all later ones. -/
theorem tab_of_laid {W : World} (h : laidMetH Tryd.prog laidL W) : Hid (∀ V, Below W.heap.size W V → Lib.TabIs Tryd.prog V "strings.asciiSpace" .u8 Lib.asciiSpaceTab) := by
  rw [MakeChecks.laidMetH_plain _ _ _ (by kernel_rfl)] at h
  have h2 : laidMet Tryd.prog [("strings.asciiSpace", Rows.laid_strings_asciiSpace), ("unicode/utf8.first", Rows.laid_unicode_utf8_first)] W := Go.laidMet.tail (Go.laidMet.tail h)
  rw [show (Rows.laid_strings_asciiSpace : DataW Unit) = Lib.tabData .u8 Lib.asciiSpaceTab from by kernel_rfl] at h2
  have ht : Lib.TabIs Tryd.prog W "strings.asciiSpace" .u8 Lib.asciiSpaceTab := Lib.tabIs_of_head gSpace tSpace Tryd.underlying104 Tryd.underlying5 cellsU8 cellsTab h2
  have hlt : 0 < W.heap.size := by
    have := ht.cell gSpace 0 (by rw [show Lib.asciiSpaceTab.length = 256 from by kernel_rfl]; omega)
    exact lt_of_cell this
  exact Lib.hid fun V hV => var_below ht gSpace hV hlt
end Go.Proofs.YtpdnjgbcnnjdiaaDoor
