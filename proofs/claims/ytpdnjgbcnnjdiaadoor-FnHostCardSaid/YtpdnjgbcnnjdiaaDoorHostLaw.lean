/- The law FnHost answers true. -/
import Derived.Test.YtpdnjgbcnnjdiaaDoorPureHost
namespace Go.Proofs.YtpdnjgbcnnjdiaaDoor
open Go Go.RowKit Go.Proofs.YtpdnjgbcnnjdiaaDoorW.PrintWords Go.Proofs.YtpdnjgbcnnjdiaaDoor.PFnMatch
set_option linter.unusedVariables false
set_option linter.unusedSimpArgs false

theorem implHost (s : ByteArray) (d : Bool) (w : World) (hs : s.size ≤ 1000) :
    Calls Tryd.prog 21 #[.string s, .bool d] w fun e w' => e = .returned (.string (mkS (pf d s.data.toList.reverse []))) ∧ Below w.heap.size w w' := by
  have HP := Lib.hid (pathFromHost s d w hs)
  go_enter Tryd.func21, Tryd.ntmps21
  go_wp2_with fail
  refine HP.out.mono ?_
  rintro e w1 ⟨rfl, hb⟩
  have HB := Lib.hid hb
  clear hb
  go_wp2_with fail
  go_ret
  exact ⟨rfl, HB.out⟩

set_option maxHeartbeats 1000000 in
theorem hostLaw (s : ByteArray) (d : Bool) (w : World) (hTab : Hid (∀ W, Below w.heap.size w W → Lib.TabIs Tryd.prog W "strings.asciiSpace" .u8 Lib.asciiSpaceTab)) :
    Calls Tryd.prog 6 #[.string s, .bool d] w fun e w' => e = .returned (.bool true) ∧ Below w.heap.size w w' := by
  by_cases hbig : s.size ≤ 2147483647
  · have HPL := Lib.hid (fun W => laws_plain.calls _ s _ W (plain_f s hbig (s.size + 1) (Nat.lt_succ_self _)))
    by_cases hpl : Plain s
    · obtain ⟨k, r, t, hf, ht⟩ := host_f s d hpl.1
      have HSP := Lib.hid (fun W => spec_Host.calls k s d r t W hf)
      have HIM := Lib.hid (fun W => implHost s d W (by have := hpl.1; omega))
      have HR := Lib.hid (fun (W : World) (hW : Below w.heap.size w W) => routed W (show Hid _ from fun V hV => hTab.out V (hW.trans (hV.mono hW.size))))
      have hdp : decide (Plain s) = true := by simpa using hpl
      rw [hdp] at HPL
      have HT := Lib.hid ht
      clear hf ht hpl hdp
      go_enter Tryd.func6, Tryd.ntmps6
      go_wp2_with fail
      refine (HPL.out _).mono ?_
      rintro e w1 ⟨rfl, hd1⟩
      have HB1 := Lib.hid (Drawn0.below hd1)
      clear hd1
      go_wp2_with fail
      refine (HSP.out _).mono ?_
      rintro e w2 ⟨rfl, hb2⟩
      have HB2 := Lib.hid (HB1.out.trans (hb2.mono HB1.out.size))
      clear hb2
      by_cases h1 : t = 1
      · subst h1
        have hr := HT.out rfl
        subst hr
        go_wp2_with fail
        refine (HIM.out _).mono ?_
        rintro e w3 ⟨rfl, hb3⟩
        have HB3 := Lib.hid (HB2.out.trans (hb3.mono HB2.out.size))
        clear hb3
        have heq : ((mkS (pf d s.data.toList.reverse [])).toList == (mkS (pf d s.data.toList.reverse [])).toList) = true := by simp
        go_wp2_with fail
        refine (HR.out _ HB3.out).mono ?_
        rintro e w4 ⟨rfl, hb4⟩
        have HB4 := Lib.hid (HB3.out.trans (hb4.mono HB3.out.size))
        clear hb4
        go_wp2_with fail
        go_ret
        exact ⟨rfl, HB4.out⟩
      · go_wp2_with fail
        go_ret
        exact ⟨rfl, HB2.out⟩
    · have hdp : decide (Plain s) = false := by simpa using hpl
      rw [hdp] at HPL
      clear hpl hdp
      go_enter Tryd.func6, Tryd.ntmps6
      go_wp2_with fail
      refine (HPL.out _).mono ?_
      rintro e w1 ⟨rfl, hd1⟩
      have HB1 := Lib.hid (Drawn0.below hd1)
      clear hd1
      go_wp2_with fail
      go_ret
      exact ⟨rfl, HB1.out⟩
  · go_enter Tryd.func6, Tryd.ntmps6
    go_wp2_with fail
    go_ret
    exact ⟨rfl, Below.refl _ _⟩
end Go.Proofs.YtpdnjgbcnnjdiaaDoor
