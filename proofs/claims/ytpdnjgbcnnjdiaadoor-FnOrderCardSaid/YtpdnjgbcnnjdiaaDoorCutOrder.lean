/- Functions of this program as print.sh printed them for the law FnOrder, without those that fall: taken by wip/cutprint.py. -/
import Derived.Test.YtpdnjgbcnnjdiaaDoorPFnOrderx0
namespace Go.Proofs.YtpdnjgbcnnjdiaaDoor.PFnOrder
open Go.RowKit Go.Proofs.YtpdnjgbcnnjdiaaDoorW.PrintWords Go.Proofs.YtpdnjgbcnnjdiaaDoorW.PrintLast Go.Proofs.YtpdnjgbcnnjdiaaDoorW.PrintMore
attribute [local go_sem] max2_int min2_int max_two min_two max_three min_three max_four min_four   -- for this text's walks alone
set_option linter.unusedVariables false
set_option linter.unusedSimpArgs false

/-! ### laws_braced: function 22 -/
mutual
def laws_braced.l0 : Nat → ByteArray → Bool → Int → Int → Option (Bool)
  | 0, _, _, _, _ => none
  | k + 1, x0, x3, x6, x7 => if x7 < x6 then (if 0 ≤ x7 then (if x7 < (x0.size : Int) then (if (bt x0 x7) = 123 then (if x3 = true then (laws_braced.j1 k x0 x3 x7 x6 x7 true) else (if (bt x0 x7) = 125 then (laws_braced.j1 k x0 x3 x7 x6 x7 (!x3)) else (laws_braced.j1 k x0 x3 x7 x6 x7 false))) else (if (bt x0 x7) = 125 then (laws_braced.j1 k x0 x3 x7 x6 x7 (!x3)) else (laws_braced.j1 k x0 x3 x7 x6 x7 false))) else (none)) else (none)) else (some (!x3))
def laws_braced.j1 : Nat → ByteArray → Bool → Int → Int → Int → Bool → Option (Bool)
  | 0, _, _, _, _, _, _ => none
  | k + 1, x0, x3, x4, x6, x7, x26 => if x26 = true then (some false) else (if 0 ≤ x4 then (if x4 < (x0.size : Int) then (if (bt x0 x4) = 123 then (laws_braced.l0 k x0 (!x3) x6 (wrap64 (x7 + 1))) else (if (bt x0 x4) = 125 then (laws_braced.l0 k x0 (!x3) x6 (wrap64 (x7 + 1))) else (laws_braced.l0 k x0 x3 x6 (wrap64 (x7 + 1))))) else (none)) else (none))
end
def laws_braced.f (k : Nat) (a0 : ByteArray) : Option (Bool) := laws_braced.l0 k a0 false (a0.size : Int) 0
theorem laws_braced.mono_l : ∀ k, (∀ y0 y1 y2 y3, LeO (laws_braced.l0 k y0 y1 y2 y3) (laws_braced.l0 (k + 1) y0 y1 y2 y3)) ∧ (∀ y0 y1 y2 y3 y4 y5, LeO (laws_braced.j1 k y0 y1 y2 y3 y4 y5) (laws_braced.j1 (k + 1) y0 y1 y2 y3 y4 y5))
  | 0 => ⟨fun _ _ _ _ r h => by simp [laws_braced.l0] at h, fun _ _ _ _ _ _ r h => by simp [laws_braced.j1] at h⟩
  | k + 1 => by
    obtain ⟨ih0, ih1⟩ := laws_braced.mono_l k
    refine ⟨?_, ?_⟩
    · intro y0 y1 y2 y3
      unfold laws_braced.l0
      repeat' first
      | (with_reducible exact ih0 _ _ _ _)
      | (with_reducible exact ih1 _ _ _ _ _ _)
      | (with_reducible exact LeO.refl _)
      | (with_reducible exact LeO.none _)
      | (with_reducible refine LeO.ite ?_ ?_)
      | (with_reducible refine LeO.bind ?_ (fun _ => ?_))
      | exact ih0 _ _ _ _
      | exact ih1 _ _ _ _ _ _
      | exact LeO.none _
      | refine LeO.ite ?_ ?_
      | refine LeO.bind ?_ (fun _ => ?_)
    · intro y0 y1 y2 y3 y4 y5
      unfold laws_braced.j1
      repeat' first
      | (with_reducible exact ih0 _ _ _ _)
      | (with_reducible exact ih1 _ _ _ _ _ _)
      | (with_reducible exact LeO.refl _)
      | (with_reducible exact LeO.none _)
      | (with_reducible refine LeO.ite ?_ ?_)
      | (with_reducible refine LeO.bind ?_ (fun _ => ?_))
      | exact ih0 _ _ _ _
      | exact ih1 _ _ _ _ _ _
      | exact LeO.none _
      | refine LeO.ite ?_ ?_
      | refine LeO.bind ?_ (fun _ => ?_)
theorem laws_braced.mono : ∀ a0 k, LeO (laws_braced.f k a0) (laws_braced.f (k + 1) a0) := by
  intro a0 k
  obtain ⟨ih0, ih1⟩ := laws_braced.mono_l k
  unfold laws_braced.f
  repeat' first
      | (with_reducible exact ih0 _ _ _ _)
      | (with_reducible exact ih1 _ _ _ _ _ _)
      | (with_reducible exact LeO.refl _)
      | (with_reducible exact LeO.none _)
      | (with_reducible refine LeO.ite ?_ ?_)
      | (with_reducible refine LeO.bind ?_ (fun _ => ?_))
      | exact ih0 _ _ _ _
      | exact ih1 _ _ _ _ _ _
      | exact LeO.none _
      | refine LeO.ite ?_ ?_
      | refine LeO.bind ?_ (fun _ => ?_)
set_option maxHeartbeats 8000000 in
set_option maxRecDepth 100000 in
theorem laws_braced.calls (k : Nat) (a0 : ByteArray) (r : Bool) (w : World) (h : laws_braced.f k a0 = some r) :
    Calls Tryd.prog 22 #[.string a0] w fun e w' => e = .returned (.bool r) ∧ Drawn0 w w' := by
  have H : (laws_braced.l0 k a0 false (a0.size : Int) 0) = some r := h
  clear h
  have H' := Aside0.mk H
  clear H
  go_enter Tryd.func22, Tryd.ntmps22
  go_wp2
  go_loopg [3, 7] k (fun kq v3 v7 w' => ∃ (x3_1 : Bool) (x7_1 : Int), v3 = .bool x3_1 ∧ v7 = .int .i64 x7_1 ∧ Aside0 (laws_braced.l0 kq a0 x3_1 (a0.size : Int) x7_1 = some r) ∧ Aside0 (kq ≤ k) ∧ Drawn0 w w')
  case atStart => exact ⟨(false), (0), (by first | rfl | (simp; done) | (simp [*]; done)), (by first | rfl | (simp; done) | (simp [*]; done)), H', ⟨Nat.le_refl _⟩, by repeat (first | exact Drawn0.refl _ | apply Drawn0.step)⟩
  case round =>
    clear H'
    obtain ⟨x3_1, x7_1, rfl, rfl, HA, HK1, ⟨m1, rfl⟩⟩ := hrel
    cases gk with
    | zero => exact absurd HA.out (by simp [laws_braced.l0])
    | succ k1 =>
      have H := HA.out
      clear HA
      simp only [laws_braced.l0] at H
      by_cases c2 : x7_1 < (a0.size : Int)
      · rw [if_pos c2] at H
        have c2b0 : decide (x7_1 < (a0.size : Int)) = true := decide_eq_true c2
        clear c2
        have HC3 := Aside0.mk H
        clear H
        go_upto_region 5 with (fail)
        go_cut [26] (fun v26 wc => ∃ (kq : Nat) (x26_2 : Bool), v26 = .bool x26_2 ∧ Aside0 (laws_braced.j1 kq a0 x3_1 x7_1 (a0.size : Int) x7_1 x26_2 = some r) ∧ Aside0 (kq ≤ k1) ∧ Drawn0 w wc)
        case first =>
          have H := HC3.out
          clear HC3
          by_cases c4 : 0 ≤ x7_1
          · rw [if_pos c4] at H
            have c4b0 : decide (0 ≤ x7_1) = true := decide_eq_true c4
            clear c4
            (first | rw [c4b0] | (simp only [i64_w, i32_w]; rw [c4b0]) | skip)
            by_cases c5 : x7_1 < (a0.size : Int)
            · rw [if_pos c5] at H
              have c5b0 : decide (x7_1 < (a0.size : Int)) = true := decide_eq_true c5
              clear c5
              by_cases c7 : (bt a0 x7_1) = 123
              · rw [if_pos c7] at H
                have c7b0 : ((bt a0 x7_1) == 123) = true := beq_iff_eq.mpr c7
                have c7b1 : ((bt a0 x7_1) != 123) = false := bne_eq_false_iff_eq.mpr c7
                clear c7
                by_cases c8 : x3_1 = true
                · subst c8
                  have H1 : (laws_braced.j1 k1 a0 true x7_1 (a0.size : Int) x7_1 true) = some r := by rw [if_pos rfl] at H; exact H
                  clear H
                  have H := H1
                  clear H1
                  have H' := Aside0.mk H
                  clear H
                  have p6 : 0 ≤ (x7_1 : Int) := of_decide_eq_true (by first | (with_reducible assumption) | assumption)
                  have q6 : x7_1 < (a0.size : Int) := of_decide_eq_true (by first | (with_reducible assumption) | assumption)
                  have hx6 := bt_at a0 x7_1
                  replace p6 := eq_true p6
                  replace q6 := eq_true q6
                  go_wp2
                  go_meet
                  case rel => exact ⟨_, (true), (by first | rfl | (simp; done) | (simp [*]; done)), H', ⟨by have := HK1.out; first | omega | exact Nat.le_refl _⟩, by repeat (first | exact Drawn0.refl _ | apply Drawn0.step)⟩
                · replace c8 := Bool.eq_false_iff.mpr c8
                  subst c8
                  have H1 : (if (bt a0 x7_1) = 125 then (laws_braced.j1 k1 a0 false x7_1 (a0.size : Int) x7_1 (!false)) else (laws_braced.j1 k1 a0 false x7_1 (a0.size : Int) x7_1 false)) = some r := by rw [if_neg (show ¬ (false = true) by decide)] at H; exact H
                  clear H
                  have H := H1
                  clear H1
                  by_cases c10 : (bt a0 x7_1) = 125
                  · rw [if_pos c10] at H
                    have c10b0 : ((bt a0 x7_1) == 125) = true := beq_iff_eq.mpr c10
                    have c10b1 : ((bt a0 x7_1) != 125) = false := bne_eq_false_iff_eq.mpr c10
                    clear c10
                    have H' := Aside0.mk H
                    clear H
                    have p6 : 0 ≤ (x7_1 : Int) := of_decide_eq_true (by first | (with_reducible assumption) | assumption)
                    have q6 : x7_1 < (a0.size : Int) := of_decide_eq_true (by first | (with_reducible assumption) | assumption)
                    have hx6 := bt_at a0 x7_1
                    replace p6 := eq_true p6
                    replace q6 := eq_true q6
                    have p9 : 0 ≤ (x7_1 : Int) := of_decide_eq_true (by first | (with_reducible assumption) | assumption)
                    have q9 : x7_1 < (a0.size : Int) := of_decide_eq_true (by first | (with_reducible assumption) | assumption)
                    have hx9 := bt_at a0 x7_1
                    replace p9 := eq_true p9
                    replace q9 := eq_true q9
                    go_wp2
                    go_meet
                    case rel => exact ⟨_, (!false), (by first | rfl | (simp; done) | (simp [*]; done)), H', ⟨by have := HK1.out; first | omega | exact Nat.le_refl _⟩, by repeat (first | exact Drawn0.refl _ | apply Drawn0.step)⟩
                  · rw [if_neg c10] at H
                    have c10b0 : ((bt a0 x7_1) == 125) = false := beq_eq_false_iff_ne.mpr c10
                    have c10b1 : ((bt a0 x7_1) != 125) = true := bne_iff_ne.mpr c10
                    have H' := Aside0.mk H
                    clear H
                    have p6 : 0 ≤ (x7_1 : Int) := of_decide_eq_true (by first | (with_reducible assumption) | assumption)
                    have q6 : x7_1 < (a0.size : Int) := of_decide_eq_true (by first | (with_reducible assumption) | assumption)
                    have hx6 := bt_at a0 x7_1
                    replace p6 := eq_true p6
                    replace q6 := eq_true q6
                    have p9 : 0 ≤ (x7_1 : Int) := of_decide_eq_true (by first | (with_reducible assumption) | assumption)
                    have q9 : x7_1 < (a0.size : Int) := of_decide_eq_true (by first | (with_reducible assumption) | assumption)
                    have hx9 := bt_at a0 x7_1
                    replace p9 := eq_true p9
                    replace q9 := eq_true q9
                    go_wp2
                    go_meet
                    case rel => exact ⟨_, (false), (by first | rfl | (simp; done) | (simp [*]; done)), H', ⟨by have := HK1.out; first | omega | exact Nat.le_refl _⟩, by repeat (first | exact Drawn0.refl _ | apply Drawn0.step)⟩
              · rw [if_neg c7] at H
                have c7b0 : ((bt a0 x7_1) == 123) = false := beq_eq_false_iff_ne.mpr c7
                have c7b1 : ((bt a0 x7_1) != 123) = true := bne_iff_ne.mpr c7
                by_cases c12 : (bt a0 x7_1) = 125
                · rw [if_pos c12] at H
                  have c12b0 : ((bt a0 x7_1) == 125) = true := beq_iff_eq.mpr c12
                  have c12b1 : ((bt a0 x7_1) != 125) = false := bne_eq_false_iff_eq.mpr c12
                  clear c12
                  have H' := Aside0.mk H
                  clear H
                  have p6 : 0 ≤ (x7_1 : Int) := of_decide_eq_true (by first | (with_reducible assumption) | assumption)
                  have q6 : x7_1 < (a0.size : Int) := of_decide_eq_true (by first | (with_reducible assumption) | assumption)
                  have hx6 := bt_at a0 x7_1
                  replace p6 := eq_true p6
                  replace q6 := eq_true q6
                  have p11 : 0 ≤ (x7_1 : Int) := of_decide_eq_true (by first | (with_reducible assumption) | assumption)
                  have q11 : x7_1 < (a0.size : Int) := of_decide_eq_true (by first | (with_reducible assumption) | assumption)
                  have hx11 := bt_at a0 x7_1
                  replace p11 := eq_true p11
                  replace q11 := eq_true q11
                  go_wp2
                  go_meet
                  case rel => exact ⟨_, (!x3_1), (by first | rfl | (simp; done) | (simp [*]; done)), H', ⟨by have := HK1.out; first | omega | exact Nat.le_refl _⟩, by repeat (first | exact Drawn0.refl _ | apply Drawn0.step)⟩
                · rw [if_neg c12] at H
                  have c12b0 : ((bt a0 x7_1) == 125) = false := beq_eq_false_iff_ne.mpr c12
                  have c12b1 : ((bt a0 x7_1) != 125) = true := bne_iff_ne.mpr c12
                  have H' := Aside0.mk H
                  clear H
                  have p6 : 0 ≤ (x7_1 : Int) := of_decide_eq_true (by first | (with_reducible assumption) | assumption)
                  have q6 : x7_1 < (a0.size : Int) := of_decide_eq_true (by first | (with_reducible assumption) | assumption)
                  have hx6 := bt_at a0 x7_1
                  replace p6 := eq_true p6
                  replace q6 := eq_true q6
                  have p11 : 0 ≤ (x7_1 : Int) := of_decide_eq_true (by first | (with_reducible assumption) | assumption)
                  have q11 : x7_1 < (a0.size : Int) := of_decide_eq_true (by first | (with_reducible assumption) | assumption)
                  have hx11 := bt_at a0 x7_1
                  replace p11 := eq_true p11
                  replace q11 := eq_true q11
                  go_wp2
                  go_meet
                  case rel => exact ⟨_, (false), (by first | rfl | (simp; done) | (simp [*]; done)), H', ⟨by have := HK1.out; first | omega | exact Nat.le_refl _⟩, by repeat (first | exact Drawn0.refl _ | apply Drawn0.step)⟩
            · rw [if_neg c5] at H
              exact absurd H (by simp)
          · rw [if_neg c4] at H
            exact absurd H (by simp)
        case rest =>
          clear HC3
          try clear c1
          try clear p1
          try clear q1
          try clear hx1
          try clear c2
          try clear c2b0
          try clear p2
          try clear c4
          try clear c4b0
          try clear c5
          try clear c5b0
          try clear p6
          try clear q6
          try clear hx6
          try clear c7
          try clear c7b0
          try clear c7b1
          try clear c8
          try clear p9
          try clear q9
          try clear hx9
          try clear c10
          try clear c10b0
          try clear c10b1
          try clear p11
          try clear q11
          try clear hx11
          try clear c12
          try clear c12b0
          try clear c12b1
          try clear p11
          try clear p6
          try clear p9
          try clear q11
          try clear q6
          try clear q9
          obtain ⟨kq, x26_2, rfl, HA, HJ2, ⟨mc2, rfl⟩⟩ := hcut
          cases kq with
          | zero => exact absurd HA.out (by simp [laws_braced.j1])
          | succ kj2 =>
            have H := HA.out
            clear HA
            simp only [laws_braced.j1] at H
            by_cases c13 : x26_2 = true
            · subst c13
              have H1 : (some false) = some r := by rw [if_pos rfl] at H; exact H
              clear H
              have H := H1
              clear H1
              obtain rfl := Option.some.inj H
              go_wp2
              go_ret
              exact ⟨by first | rfl | (simp; done) | (simp [*]; done), by repeat (first | exact Drawn0.refl _ | apply Drawn0.step)⟩
            · replace c13 := Bool.eq_false_iff.mpr c13
              subst c13
              have H1 : (if 0 ≤ x7_1 then (if x7_1 < (a0.size : Int) then (if (bt a0 x7_1) = 123 then (laws_braced.l0 kj2 a0 (!x3_1) (a0.size : Int) (wrap64 (x7_1 + 1))) else (if (bt a0 x7_1) = 125 then (laws_braced.l0 kj2 a0 (!x3_1) (a0.size : Int) (wrap64 (x7_1 + 1))) else (laws_braced.l0 kj2 a0 x3_1 (a0.size : Int) (wrap64 (x7_1 + 1))))) else (none)) else (none)) = some r := by rw [if_neg (show ¬ (false = true) by decide)] at H; exact H
              clear H
              have H := H1
              clear H1
              by_cases c14 : 0 ≤ x7_1
              · rw [if_pos c14] at H
                have c14b0 : decide (0 ≤ x7_1) = true := decide_eq_true c14
                clear c14
                by_cases c15 : x7_1 < (a0.size : Int)
                · rw [if_pos c15] at H
                  have c15b0 : decide (x7_1 < (a0.size : Int)) = true := decide_eq_true c15
                  clear c15
                  by_cases c17 : (bt a0 x7_1) = 123
                  · rw [if_pos c17] at H
                    have c17b0 : ((bt a0 x7_1) == 123) = true := beq_iff_eq.mpr c17
                    have c17b1 : ((bt a0 x7_1) != 123) = false := bne_eq_false_iff_eq.mpr c17
                    clear c17
                    have H' := Aside0.mk H
                    clear H
                    have p16 : 0 ≤ (x7_1 : Int) := of_decide_eq_true (by first | (with_reducible assumption) | assumption)
                    have q16 : x7_1 < (a0.size : Int) := of_decide_eq_true (by first | (with_reducible assumption) | assumption)
                    have hx16 := bt_at a0 x7_1
                    replace p16 := eq_true p16
                    replace q16 := eq_true q16
                    go_wp2
                    go_roundg kj2
                    case measure => have := HK1.out; have := HJ2.out; omega
                    case rel => exact ⟨(!x3_1), (wrap64 (x7_1 + 1)), (by first | rfl | (simp; done) | (simp [*]; done)), (by first | rfl | (simp; done) | (simp [*]; done)), H', ⟨by have := HK1.out; have := HJ2.out; omega⟩, by repeat (first | exact Drawn0.refl _ | apply Drawn0.step)⟩
                  · rw [if_neg c17] at H
                    have c17b0 : ((bt a0 x7_1) == 123) = false := beq_eq_false_iff_ne.mpr c17
                    have c17b1 : ((bt a0 x7_1) != 123) = true := bne_iff_ne.mpr c17
                    by_cases c19 : (bt a0 x7_1) = 125
                    · rw [if_pos c19] at H
                      have c19b0 : ((bt a0 x7_1) == 125) = true := beq_iff_eq.mpr c19
                      have c19b1 : ((bt a0 x7_1) != 125) = false := bne_eq_false_iff_eq.mpr c19
                      clear c19
                      have H' := Aside0.mk H
                      clear H
                      have p16 : 0 ≤ (x7_1 : Int) := of_decide_eq_true (by first | (with_reducible assumption) | assumption)
                      have q16 : x7_1 < (a0.size : Int) := of_decide_eq_true (by first | (with_reducible assumption) | assumption)
                      have hx16 := bt_at a0 x7_1
                      replace p16 := eq_true p16
                      replace q16 := eq_true q16
                      have p18 : 0 ≤ (x7_1 : Int) := of_decide_eq_true (by first | (with_reducible assumption) | assumption)
                      have q18 : x7_1 < (a0.size : Int) := of_decide_eq_true (by first | (with_reducible assumption) | assumption)
                      have hx18 := bt_at a0 x7_1
                      replace p18 := eq_true p18
                      replace q18 := eq_true q18
                      go_wp2
                      go_roundg kj2
                      case measure => have := HK1.out; have := HJ2.out; omega
                      case rel => exact ⟨(!x3_1), (wrap64 (x7_1 + 1)), (by first | rfl | (simp; done) | (simp [*]; done)), (by first | rfl | (simp; done) | (simp [*]; done)), H', ⟨by have := HK1.out; have := HJ2.out; omega⟩, by repeat (first | exact Drawn0.refl _ | apply Drawn0.step)⟩
                    · rw [if_neg c19] at H
                      have c19b0 : ((bt a0 x7_1) == 125) = false := beq_eq_false_iff_ne.mpr c19
                      have c19b1 : ((bt a0 x7_1) != 125) = true := bne_iff_ne.mpr c19
                      have H' := Aside0.mk H
                      clear H
                      have p16 : 0 ≤ (x7_1 : Int) := of_decide_eq_true (by first | (with_reducible assumption) | assumption)
                      have q16 : x7_1 < (a0.size : Int) := of_decide_eq_true (by first | (with_reducible assumption) | assumption)
                      have hx16 := bt_at a0 x7_1
                      replace p16 := eq_true p16
                      replace q16 := eq_true q16
                      have p18 : 0 ≤ (x7_1 : Int) := of_decide_eq_true (by first | (with_reducible assumption) | assumption)
                      have q18 : x7_1 < (a0.size : Int) := of_decide_eq_true (by first | (with_reducible assumption) | assumption)
                      have hx18 := bt_at a0 x7_1
                      replace p18 := eq_true p18
                      replace q18 := eq_true q18
                      go_wp2
                      go_roundg kj2
                      case measure => have := HK1.out; have := HJ2.out; omega
                      case rel => exact ⟨(x3_1), (wrap64 (x7_1 + 1)), (by first | rfl | (simp; done) | (simp [*]; done)), (by first | rfl | (simp; done) | (simp [*]; done)), H', ⟨by have := HK1.out; have := HJ2.out; omega⟩, by repeat (first | exact Drawn0.refl _ | apply Drawn0.step)⟩
                · rw [if_neg c15] at H
                  exact absurd H (by simp)
              · rw [if_neg c14] at H
                exact absurd H (by simp)
      · rw [if_neg c2] at H
        have c2b0 : decide (x7_1 < (a0.size : Int)) = false := decide_eq_false c2
        clear c2
        obtain rfl := Option.some.inj H
        go_wp2
        go_ret
        exact ⟨by first | rfl | (simp; done) | (simp [*]; done), by repeat (first | exact Drawn0.refl _ | apply Drawn0.step)⟩

end Go.Proofs.YtpdnjgbcnnjdiaaDoor.PFnOrder
