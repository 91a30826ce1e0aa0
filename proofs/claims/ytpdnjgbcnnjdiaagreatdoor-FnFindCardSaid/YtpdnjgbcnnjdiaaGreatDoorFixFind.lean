/- spec.plainPath, joinTexts, parted, starless, Find: as print.sh printed it, turned by wip/fixfind.py where it fell. -/
import Derived.Test.YtpdnjgbcnnjdiaaGreatDoorPFnFindx0
import Derived.Test.YtpdnjgbcnnjdiaaGreatDoorFixPieces
namespace Go.Proofs.YtpdnjgbcnnjdiaaGreatDoor.PFnFind
open Go.RowKit Go.Proofs.YtpdnjgbcnnjdiaaGreatDoorW.PrintWords Go.Proofs.YtpdnjgbcnnjdiaaGreatDoorW.PrintLast Go.Proofs.YtpdnjgbcnnjdiaaGreatDoorW.PrintMore
attribute [local go_sem] max2_int min2_int max_two min_two max_three min_three max_four min_four   -- for this text's walks alone
set_option linter.unusedVariables false
set_option linter.unusedSimpArgs false

/-! ### spec_plainPath: function 11 -/
def spec_plainPath.l0 : Nat → ByteArray → ByteArray → Bool → Int → Int → Option (ByteArray)
  | 0, _, _, _, _, _ => none
  | k + 1, x0, x3, x4, x8, x9 => if x9 < x8 then (if 0 ≤ x9 then (if x9 < (x0.size : Int) then (if (bt x0 x9) = 123 then (if x3.size + 1 ≤ 9223372036854775807 then (spec_plainPath.l0 k x0 (x3 ++ (⟨#[123]⟩ : ByteArray)) true x8 (wrap64 (x9 + 1))) else (none)) else (if (bt x0 x9) = 125 then (if x3.size + 1 ≤ 9223372036854775807 then (spec_plainPath.l0 k x0 (x3 ++ (⟨#[125]⟩ : ByteArray)) false x8 (wrap64 (x9 + 1))) else (none)) else (if x4 = true then (if (bt x0 x9) = 42 then (if x9 ≤ (wrap64 (x9 + 1)) then (if (wrap64 (x9 + 1)) ≤ (x0.size : Int) then (if x3.size + (x0.extract (x9 : Int).toNat ((wrap64 (x9 + 1)) : Int).toNat).size ≤ 9223372036854775807 then (spec_plainPath.l0 k x0 (x3 ++ (x0.extract (x9 : Int).toNat ((wrap64 (x9 + 1)) : Int).toNat)) x4 x8 (wrap64 (x9 + 1))) else (none)) else (none)) else (none)) else (spec_plainPath.l0 k x0 x3 x4 x8 (wrap64 (x9 + 1)))) else (if x9 ≤ (wrap64 (x9 + 1)) then (if (wrap64 (x9 + 1)) ≤ (x0.size : Int) then (if x3.size + (x0.extract (x9 : Int).toNat ((wrap64 (x9 + 1)) : Int).toNat).size ≤ 9223372036854775807 then (spec_plainPath.l0 k x0 (x3 ++ (x0.extract (x9 : Int).toNat ((wrap64 (x9 + 1)) : Int).toNat)) x4 x8 (wrap64 (x9 + 1))) else (none)) else (none)) else (none))))) else (none)) else (none)) else (some x3)
def spec_plainPath.f (k : Nat) (a0 : ByteArray) : Option (ByteArray) := spec_plainPath.l0 k a0 (⟨#[]⟩ : ByteArray) false (a0.size : Int) 0
theorem spec_plainPath.mono_l : ∀ k, (∀ y0 y1 y2 y3 y4, LeO (spec_plainPath.l0 k y0 y1 y2 y3 y4) (spec_plainPath.l0 (k + 1) y0 y1 y2 y3 y4))
  | 0 => fun _ _ _ _ _ r h => by simp [spec_plainPath.l0] at h
  | k + 1 => by
    have ih0 := spec_plainPath.mono_l k
    · intro y0 y1 y2 y3 y4
      unfold spec_plainPath.l0
      repeat' first
      | (with_reducible exact ih0 _ _ _ _ _)
      | (with_reducible exact LeO.refl _)
      | (with_reducible exact LeO.none _)
      | (with_reducible refine LeO.ite ?_ ?_)
      | (with_reducible refine LeO.bind ?_ (fun _ => ?_))
      | exact ih0 _ _ _ _ _
      | exact LeO.none _
      | refine LeO.ite ?_ ?_
      | refine LeO.bind ?_ (fun _ => ?_)
theorem spec_plainPath.mono : ∀ a0 k, LeO (spec_plainPath.f k a0) (spec_plainPath.f (k + 1) a0) := by
  intro a0 k
  have ih0 := spec_plainPath.mono_l k
  unfold spec_plainPath.f
  repeat' first
      | (with_reducible exact ih0 _ _ _ _ _)
      | (with_reducible exact LeO.refl _)
      | (with_reducible exact LeO.none _)
      | (with_reducible refine LeO.ite ?_ ?_)
      | (with_reducible refine LeO.bind ?_ (fun _ => ?_))
      | exact ih0 _ _ _ _ _
      | exact LeO.none _
      | refine LeO.ite ?_ ?_
      | refine LeO.bind ?_ (fun _ => ?_)
set_option maxHeartbeats 8000000 in
set_option maxRecDepth 100000 in
theorem spec_plainPath.calls (k : Nat) (a0 : ByteArray) (r : ByteArray) (w : World) (h : spec_plainPath.f k a0 = some r) :
    Calls Tryz.prog 11 #[.string a0] w fun e w' => e = .returned (.string r) ∧ Drawn0 w w' := by
  have H : (spec_plainPath.l0 k a0 (⟨#[]⟩ : ByteArray) false (a0.size : Int) 0) = some r := h
  clear h
  have H' := Aside0.mk H
  clear H
  go_enter Tryz.func11, Tryz.ntmps11
  go_wp2
  go_loopg [3, 4, 9] k (fun kq v3 v4 v9 w' => ∃ (x3_1 : ByteArray) (x4_1 : Bool) (x9_1 : Int), v3 = .string x3_1 ∧ v4 = .bool x4_1 ∧ v9 = .int .i64 x9_1 ∧ Aside0 (spec_plainPath.l0 kq a0 x3_1 x4_1 (a0.size : Int) x9_1 = some r) ∧ Aside0 (kq ≤ k) ∧ Drawn0 w w')
  case atStart => exact ⟨((⟨#[]⟩ : ByteArray)), (false), (0), (by first | rfl | (simp; done) | (simp [*]; done)), (by first | rfl | (simp; done) | (simp [*]; done)), (by first | rfl | (simp; done) | (simp [*]; done)), H', ⟨Nat.le_refl _⟩, by repeat (first | exact Drawn0.refl _ | apply Drawn0.step)⟩
  case round =>
    clear H'
    try clear c1
    obtain ⟨x3_1, x4_1, x9_1, rfl, rfl, rfl, HA, HK1, ⟨m1, rfl⟩⟩ := hrel
    cases gk with
    | zero => exact absurd HA.out (by simp [spec_plainPath.l0])
    | succ k1 =>
      have H := HA.out
      clear HA
      simp only [spec_plainPath.l0] at H
      by_cases c2 : x9_1 < (a0.size : Int)
      · rw [if_pos c2] at H
        have c2b0 : decide (x9_1 < (a0.size : Int)) = true := decide_eq_true c2
        clear c2
        by_cases c3 : 0 ≤ x9_1
        · rw [if_pos c3] at H
          have c3b0 : decide (0 ≤ x9_1) = true := decide_eq_true c3
          clear c3
          by_cases c4 : x9_1 < (a0.size : Int)
          · rw [if_pos c4] at H
            have c4b0 : decide (x9_1 < (a0.size : Int)) = true := decide_eq_true c4
            clear c4
            by_cases c6 : (bt a0 x9_1) = 123
            · rw [if_pos c6] at H
              have c6b0 : ((bt a0 x9_1) == 123) = true := beq_iff_eq.mpr c6
              have c6b1 : ((bt a0 x9_1) != 123) = false := bne_eq_false_iff_eq.mpr c6
              clear c6
              by_cases c7 : x3_1.size + 1 ≤ 9223372036854775807
              · rw [if_pos c7] at H
                have c7b0 := eq_true c7
                have c7b1 : decide (x3_1.size + 1 ≤ 9223372036854775807) = true := decide_eq_true c7
                try have c7b2 : (9223372036854775807 < x3_1.size + 1) = False := eq_false (Nat.not_lt.2 c7)
                have H' := Aside0.mk H
                clear H
                have p5 : 0 ≤ (x9_1 : Int) := of_decide_eq_true (by first | (with_reducible assumption) | assumption)
                have q5 : x9_1 < (a0.size : Int) := of_decide_eq_true (by first | (with_reducible assumption) | assumption)
                have hx5 := bt_at a0 x9_1
                replace p5 := eq_true p5
                replace q5 := eq_true q5
                go_wp2
                go_roundg k1
                case measure => have := HK1.out; omega
                case rel => exact ⟨(x3_1 ++ (⟨#[123]⟩ : ByteArray)), (true), (wrap64 (x9_1 + 1)), (by first | rfl | (simp; done) | (simp [*]; done)), (by first | rfl | (simp; done) | (simp [*]; done)), (by first | rfl | (simp; done) | (simp [*]; done)), H', ⟨by have := HK1.out; omega⟩, by repeat (first | exact Drawn0.refl _ | apply Drawn0.step)⟩
              · rw [if_neg c7] at H
                exact absurd H (by simp)
            · rw [if_neg c6] at H
              have c6b0 : ((bt a0 x9_1) == 123) = false := beq_eq_false_iff_ne.mpr c6
              have c6b1 : ((bt a0 x9_1) != 123) = true := bne_iff_ne.mpr c6
              by_cases c8 : (bt a0 x9_1) = 125
              · rw [if_pos c8] at H
                have c8b0 : ((bt a0 x9_1) == 125) = true := beq_iff_eq.mpr c8
                have c8b1 : ((bt a0 x9_1) != 125) = false := bne_eq_false_iff_eq.mpr c8
                clear c8
                by_cases c9 : x3_1.size + 1 ≤ 9223372036854775807
                · rw [if_pos c9] at H
                  have c9b0 := eq_true c9
                  have c9b1 : decide (x3_1.size + 1 ≤ 9223372036854775807) = true := decide_eq_true c9
                  try have c9b2 : (9223372036854775807 < x3_1.size + 1) = False := eq_false (Nat.not_lt.2 c9)
                  have H' := Aside0.mk H
                  clear H
                  have p5 : 0 ≤ (x9_1 : Int) := of_decide_eq_true (by first | (with_reducible assumption) | assumption)
                  have q5 : x9_1 < (a0.size : Int) := of_decide_eq_true (by first | (with_reducible assumption) | assumption)
                  have hx5 := bt_at a0 x9_1
                  replace p5 := eq_true p5
                  replace q5 := eq_true q5
                  go_wp2
                  go_roundg k1
                  case measure => have := HK1.out; omega
                  case rel => exact ⟨(x3_1 ++ (⟨#[125]⟩ : ByteArray)), (false), (wrap64 (x9_1 + 1)), (by first | rfl | (simp; done) | (simp [*]; done)), (by first | rfl | (simp; done) | (simp [*]; done)), (by first | rfl | (simp; done) | (simp [*]; done)), H', ⟨by have := HK1.out; omega⟩, by repeat (first | exact Drawn0.refl _ | apply Drawn0.step)⟩
                · rw [if_neg c9] at H
                  exact absurd H (by simp)
              · rw [if_neg c8] at H
                have c8b0 : ((bt a0 x9_1) == 125) = false := beq_eq_false_iff_ne.mpr c8
                have c8b1 : ((bt a0 x9_1) != 125) = true := bne_iff_ne.mpr c8
                by_cases c10 : x4_1 = true
                · subst c10
                  have H1 : (if (bt a0 x9_1) = 42 then (if x9_1 ≤ (wrap64 (x9_1 + 1)) then (if (wrap64 (x9_1 + 1)) ≤ (a0.size : Int) then (if x3_1.size + (a0.extract (x9_1 : Int).toNat ((wrap64 (x9_1 + 1)) : Int).toNat).size ≤ 9223372036854775807 then (spec_plainPath.l0 k1 a0 (x3_1 ++ (a0.extract (x9_1 : Int).toNat ((wrap64 (x9_1 + 1)) : Int).toNat)) true (a0.size : Int) (wrap64 (x9_1 + 1))) else (none)) else (none)) else (none)) else (spec_plainPath.l0 k1 a0 x3_1 true (a0.size : Int) (wrap64 (x9_1 + 1)))) = some r := by rw [if_pos rfl] at H; exact H
                  clear H
                  have H := H1
                  clear H1
                  by_cases c11 : (bt a0 x9_1) = 42
                  · rw [if_pos c11] at H
                    have c11b0 : ((bt a0 x9_1) == 42) = true := beq_iff_eq.mpr c11
                    have c11b1 : ((bt a0 x9_1) != 42) = false := bne_eq_false_iff_eq.mpr c11
                    clear c11
                    have c12b0 := eq_true (of_decide_eq_true (by first | (with_reducible assumption) | assumption) : 0 ≤ x9_1)
                    by_cases c13 : x9_1 ≤ (wrap64 (x9_1 + 1))
                    · rw [if_pos c13] at H
                      have c13b0 := eq_true c13
                      have c13b1 : decide (x9_1 ≤ (wrap64 (x9_1 + 1))) = true := decide_eq_true c13
                      by_cases c14 : (wrap64 (x9_1 + 1)) ≤ (a0.size : Int)
                      · rw [if_pos c14] at H
                        have c14b0 := eq_true c14
                        have c14b1 : decide ((wrap64 (x9_1 + 1)) ≤ (a0.size : Int)) = true := decide_eq_true c14
                        by_cases c15 : x3_1.size + (a0.extract (x9_1 : Int).toNat ((wrap64 (x9_1 + 1)) : Int).toNat).size ≤ 9223372036854775807
                        · rw [if_pos c15] at H
                          have c15b0 := eq_true c15
                          have c15b1 : decide (x3_1.size + (a0.extract (x9_1 : Int).toNat ((wrap64 (x9_1 + 1)) : Int).toNat).size ≤ 9223372036854775807) = true := decide_eq_true c15
                          try have c15b2 : (9223372036854775807 < x3_1.size + (a0.extract (x9_1 : Int).toNat ((wrap64 (x9_1 + 1)) : Int).toNat).size) = False := eq_false (Nat.not_lt.2 c15)
                          have H' := Aside0.mk H
                          clear H
                          have p5 : 0 ≤ (x9_1 : Int) := of_decide_eq_true (by first | (with_reducible assumption) | assumption)
                          have q5 : x9_1 < (a0.size : Int) := of_decide_eq_true (by first | (with_reducible assumption) | assumption)
                          have hx5 := bt_at a0 x9_1
                          replace p5 := eq_true p5
                          replace q5 := eq_true q5
                          go_wp2
                          go_roundg k1
                          case measure => have := HK1.out; omega
                          case rel => exact ⟨(x3_1 ++ (a0.extract (x9_1 : Int).toNat ((wrap64 (x9_1 + 1)) : Int).toNat)), (true), (wrap64 (x9_1 + 1)), (by first | rfl | (simp; done) | (simp [*]; done)), (by first | rfl | (simp; done) | (simp [*]; done)), (by first | rfl | (simp; done) | (simp [*]; done)), H', ⟨by have := HK1.out; omega⟩, by repeat (first | exact Drawn0.refl _ | apply Drawn0.step)⟩
                        · rw [if_neg c15] at H
                          exact absurd H (by simp)
                      · rw [if_neg c14] at H
                        exact absurd H (by simp)
                    · rw [if_neg c13] at H
                      exact absurd H (by simp)
                  · rw [if_neg c11] at H
                    have c11b0 : ((bt a0 x9_1) == 42) = false := beq_eq_false_iff_ne.mpr c11
                    have c11b1 : ((bt a0 x9_1) != 42) = true := bne_iff_ne.mpr c11
                    have H' := Aside0.mk H
                    clear H
                    have p5 : 0 ≤ (x9_1 : Int) := of_decide_eq_true (by first | (with_reducible assumption) | assumption)
                    have q5 : x9_1 < (a0.size : Int) := of_decide_eq_true (by first | (with_reducible assumption) | assumption)
                    have hx5 := bt_at a0 x9_1
                    replace p5 := eq_true p5
                    replace q5 := eq_true q5
                    go_wp2
                    go_roundg k1
                    case measure => have := HK1.out; omega
                    case rel => exact ⟨(x3_1), (true), (wrap64 (x9_1 + 1)), (by first | rfl | (simp; done) | (simp [*]; done)), (by first | rfl | (simp; done) | (simp [*]; done)), (by first | rfl | (simp; done) | (simp [*]; done)), H', ⟨by have := HK1.out; omega⟩, by repeat (first | exact Drawn0.refl _ | apply Drawn0.step)⟩
                · replace c10 := Bool.eq_false_iff.mpr c10
                  subst c10
                  have H1 : (if x9_1 ≤ (wrap64 (x9_1 + 1)) then (if (wrap64 (x9_1 + 1)) ≤ (a0.size : Int) then (if x3_1.size + (a0.extract (x9_1 : Int).toNat ((wrap64 (x9_1 + 1)) : Int).toNat).size ≤ 9223372036854775807 then (spec_plainPath.l0 k1 a0 (x3_1 ++ (a0.extract (x9_1 : Int).toNat ((wrap64 (x9_1 + 1)) : Int).toNat)) false (a0.size : Int) (wrap64 (x9_1 + 1))) else (none)) else (none)) else (none)) = some r := by rw [if_neg (show ¬ (false = true) by decide)] at H; exact H
                  clear H
                  have H := H1
                  clear H1
                  have c16b0 := eq_true (of_decide_eq_true (by first | (with_reducible assumption) | assumption) : 0 ≤ x9_1)
                  by_cases c17 : x9_1 ≤ (wrap64 (x9_1 + 1))
                  · rw [if_pos c17] at H
                    have c17b0 := eq_true c17
                    have c17b1 : decide (x9_1 ≤ (wrap64 (x9_1 + 1))) = true := decide_eq_true c17
                    by_cases c18 : (wrap64 (x9_1 + 1)) ≤ (a0.size : Int)
                    · rw [if_pos c18] at H
                      have c18b0 := eq_true c18
                      have c18b1 : decide ((wrap64 (x9_1 + 1)) ≤ (a0.size : Int)) = true := decide_eq_true c18
                      by_cases c19 : x3_1.size + (a0.extract (x9_1 : Int).toNat ((wrap64 (x9_1 + 1)) : Int).toNat).size ≤ 9223372036854775807
                      · rw [if_pos c19] at H
                        have c19b0 := eq_true c19
                        have c19b1 : decide (x3_1.size + (a0.extract (x9_1 : Int).toNat ((wrap64 (x9_1 + 1)) : Int).toNat).size ≤ 9223372036854775807) = true := decide_eq_true c19
                        try have c19b2 : (9223372036854775807 < x3_1.size + (a0.extract (x9_1 : Int).toNat ((wrap64 (x9_1 + 1)) : Int).toNat).size) = False := eq_false (Nat.not_lt.2 c19)
                        have H' := Aside0.mk H
                        clear H
                        have p5 : 0 ≤ (x9_1 : Int) := of_decide_eq_true (by first | (with_reducible assumption) | assumption)
                        have q5 : x9_1 < (a0.size : Int) := of_decide_eq_true (by first | (with_reducible assumption) | assumption)
                        have hx5 := bt_at a0 x9_1
                        replace p5 := eq_true p5
                        replace q5 := eq_true q5
                        go_wp2
                        go_roundg k1
                        case measure => have := HK1.out; omega
                        case rel => exact ⟨(x3_1 ++ (a0.extract (x9_1 : Int).toNat ((wrap64 (x9_1 + 1)) : Int).toNat)), (false), (wrap64 (x9_1 + 1)), (by first | rfl | (simp; done) | (simp [*]; done)), (by first | rfl | (simp; done) | (simp [*]; done)), (by first | rfl | (simp; done) | (simp [*]; done)), H', ⟨by have := HK1.out; omega⟩, by repeat (first | exact Drawn0.refl _ | apply Drawn0.step)⟩
                      · rw [if_neg c19] at H
                        exact absurd H (by simp)
                    · rw [if_neg c18] at H
                      exact absurd H (by simp)
                  · rw [if_neg c17] at H
                    exact absurd H (by simp)
          · rw [if_neg c4] at H
            exact absurd H (by simp)
        · rw [if_neg c3] at H
          exact absurd H (by simp)
      · rw [if_neg c2] at H
        have c2b0 : decide (x9_1 < (a0.size : Int)) = false := decide_eq_false c2
        clear c2
        obtain rfl := Option.some.inj H
        go_wp2
        go_ret
        exact ⟨by first | rfl | (simp; done) | (simp [*]; done), by repeat (first | exact Drawn0.refl _ | apply Drawn0.step)⟩

/-! ### spec_joinTexts: function 18 -/
def spec_joinTexts.l0 : Nat → ByteArray → ByteArray → List ByteArray → Int → Int → Option (ByteArray)
  | 0, _, _, _, _, _ => none
  | k + 1, x1, x5, x8, x9, x10 => if x10 < x9 then (if 0 ≤ x10 then (if x10 < (x8.length : Int) then (if x10 > 0 then (if x5.size + x1.size ≤ 9223372036854775807 then (if (x5 ++ x1).size + (rdOf ByteArray.empty x8 x10).size ≤ 9223372036854775807 then (spec_joinTexts.l0 k x1 ((x5 ++ x1) ++ (rdOf ByteArray.empty x8 x10)) x8 x9 (wrap64 (x10 + 1))) else (none)) else (none)) else (if x5.size + (rdOf ByteArray.empty x8 x10).size ≤ 9223372036854775807 then (spec_joinTexts.l0 k x1 (x5 ++ (rdOf ByteArray.empty x8 x10)) x8 x9 (wrap64 (x10 + 1))) else (none))) else (none)) else (none)) else (some x5)
def spec_joinTexts.f (k : Nat) (l0 : List ByteArray) (a1 : ByteArray) : Option (ByteArray) := spec_joinTexts.l0 k a1 (⟨#[]⟩ : ByteArray) l0 (l0.length : Int) 0
theorem spec_joinTexts.mono_l : ∀ k, (∀ y0 y1 y2 y3 y4, LeO (spec_joinTexts.l0 k y0 y1 y2 y3 y4) (spec_joinTexts.l0 (k + 1) y0 y1 y2 y3 y4))
  | 0 => fun _ _ _ _ _ r h => by simp [spec_joinTexts.l0] at h
  | k + 1 => by
    have ih0 := spec_joinTexts.mono_l k
    · intro y0 y1 y2 y3 y4
      unfold spec_joinTexts.l0
      repeat' first
      | (with_reducible exact ih0 _ _ _ _ _)
      | (with_reducible exact LeO.refl _)
      | (with_reducible exact LeO.none _)
      | (with_reducible refine LeO.ite ?_ ?_)
      | (with_reducible refine LeO.bind ?_ (fun _ => ?_))
      | exact ih0 _ _ _ _ _
      | exact LeO.none _
      | refine LeO.ite ?_ ?_
      | refine LeO.bind ?_ (fun _ => ?_)
theorem spec_joinTexts.mono : ∀ a0 a1 k, LeO (spec_joinTexts.f k a0 a1) (spec_joinTexts.f (k + 1) a0 a1) := by
  intro a0 a1 k
  have ih0 := spec_joinTexts.mono_l k
  unfold spec_joinTexts.f
  repeat' first
      | (with_reducible exact ih0 _ _ _ _ _)
      | (with_reducible exact LeO.refl _)
      | (with_reducible exact LeO.none _)
      | (with_reducible refine LeO.ite ?_ ?_)
      | (with_reducible refine LeO.bind ?_ (fun _ => ?_))
      | exact ih0 _ _ _ _ _
      | exact LeO.none _
      | refine LeO.ite ?_ ?_
      | refine LeO.bind ?_ (fun _ => ?_)
set_option maxHeartbeats 8000000 in
set_option maxRecDepth 100000 in
theorem spec_joinTexts.calls (k : Nat) (A0 : Option Addr) (c0 : Nat) (l0 : List ByteArray) (a1 : ByteArray) (r : ByteArray) (w : World) (hr0 : Kd.C Kd.string w A0 l0.length l0) (hc0 : l0.length ≤ c0) (h : spec_joinTexts.f k l0 a1 = some r) :
    Calls Tryz.prog 18 #[.slice A0 l0.length c0, .string a1] w fun e w' => e = .returned (.string r) ∧ Drawn0 w w' := by
  have HR0 := Aside0.mk hr0
  have HC0 := Aside0.mk hc0
  clear hr0 hc0
  have H : (spec_joinTexts.l0 k a1 (⟨#[]⟩ : ByteArray) l0 (l0.length : Int) 0) = some r := h
  clear h
  have H' := Aside0.mk H
  clear H
  go_enter Tryz.func18, Tryz.ntmps18
  go_wp2
  go_loopg [5, 10] k (fun kq v5 v10 w' => ∃ (x5_1 : ByteArray) (x10_1 : Int), v5 = .string x5_1 ∧ v10 = .int .i64 x10_1 ∧ Aside0 (spec_joinTexts.l0 kq a1 x5_1 l0 (l0.length : Int) x10_1 = some r) ∧ Aside0 (kq ≤ k) ∧ Drawn0 w w')
  case atStart => exact ⟨((⟨#[]⟩ : ByteArray)), (0), (by first | rfl | (simp; done) | (simp [*]; done)), (by first | rfl | (simp; done) | (simp [*]; done)), H', ⟨Nat.le_refl _⟩, by repeat (first | exact Drawn0.refl _ | apply Drawn0.step)⟩
  case round =>
    clear H'
    try clear c1
    try clear p2
    obtain ⟨x5_1, x10_1, rfl, rfl, HA, HK1, ⟨m1, rfl⟩⟩ := hrel
    cases gk with
    | zero => exact absurd HA.out (by simp [spec_joinTexts.l0])
    | succ k1 =>
      have H := HA.out
      clear HA
      simp only [spec_joinTexts.l0] at H
      by_cases c3 : x10_1 < (l0.length : Int)
      · rw [if_pos c3] at H
        have c3b0 : decide (x10_1 < (l0.length : Int)) = true := decide_eq_true c3
        clear c3
        by_cases c4 : 0 ≤ x10_1
        · rw [if_pos c4] at H
          have c4b0 : decide (0 ≤ x10_1) = true := decide_eq_true c4
          clear c4
          by_cases c5 : x10_1 < (l0.length : Int)
          · rw [if_pos c5] at H
            have c5b0 : decide (x10_1 < (l0.length : Int)) = true := decide_eq_true c5
            clear c5
            by_cases c6 : x10_1 > 0
            · rw [if_pos c6] at H
              have c6b0 : decide (0 < x10_1) = true := decide_eq_true c6
              clear c6
              by_cases c7 : x5_1.size + a1.size ≤ 9223372036854775807
              · rw [if_pos c7] at H
                have c7b0 := eq_true c7
                have c7b1 : decide (x5_1.size + a1.size ≤ 9223372036854775807) = true := decide_eq_true c7
                try have c7b2 : (9223372036854775807 < x5_1.size + a1.size) = False := eq_false (Nat.not_lt.2 c7)
                by_cases c8 : (x5_1 ++ a1).size + (rdOf ByteArray.empty l0 x10_1).size ≤ 9223372036854775807
                · rw [if_pos c8] at H
                  have c8b0 := eq_true c8
                  have c8b1 : decide ((x5_1 ++ a1).size + (rdOf ByteArray.empty l0 x10_1).size ≤ 9223372036854775807) = true := decide_eq_true c8
                  try have c8b2 : (9223372036854775807 < (x5_1 ++ a1).size + (rdOf ByteArray.empty l0 x10_1).size) = False := eq_false (Nat.not_lt.2 c8)
                  have H' := Aside0.mk H
                  clear H
                  have p118 : 0 ≤ (x10_1 : Int) := of_decide_eq_true (by first | (with_reducible assumption) | assumption)
                  have q118 : x10_1 < (l0.length : Int) := of_decide_eq_true (by first | (with_reducible assumption) | assumption)
                  obtain ⟨ad118, e118, hx118_0⟩ := Kd.at_string HR0.out x10_1 p118 q118
                  cases e118
                  replace p118 := eq_true p118
                  replace q118 := eq_true q118
                  go_wp2
                  go_roundg k1
                  case measure => have := HK1.out; omega
                  case rel => exact ⟨((x5_1 ++ a1) ++ (rdOf ByteArray.empty l0 x10_1)), (wrap64 (x10_1 + 1)), (by first | rfl | (simp; done) | (simp [*]; done)), (by first | rfl | (simp; done) | (simp [*]; done)), H', ⟨by have := HK1.out; omega⟩, by repeat (first | exact Drawn0.refl _ | apply Drawn0.step)⟩
                · rw [if_neg c8] at H
                  exact absurd H (by simp)
              · rw [if_neg c7] at H
                exact absurd H (by simp)
            · rw [if_neg c6] at H
              have c6b0 : decide (0 < x10_1) = false := decide_eq_false c6
              clear c6
              by_cases c9 : x5_1.size + (rdOf ByteArray.empty l0 x10_1).size ≤ 9223372036854775807
              · rw [if_pos c9] at H
                have c9b0 := eq_true c9
                have c9b1 : decide (x5_1.size + (rdOf ByteArray.empty l0 x10_1).size ≤ 9223372036854775807) = true := decide_eq_true c9
                try have c9b2 : (9223372036854775807 < x5_1.size + (rdOf ByteArray.empty l0 x10_1).size) = False := eq_false (Nat.not_lt.2 c9)
                have H' := Aside0.mk H
                clear H
                have p118 : 0 ≤ (x10_1 : Int) := of_decide_eq_true (by first | (with_reducible assumption) | assumption)
                have q118 : x10_1 < (l0.length : Int) := of_decide_eq_true (by first | (with_reducible assumption) | assumption)
                obtain ⟨ad118, e118, hx118_0⟩ := Kd.at_string HR0.out x10_1 p118 q118
                cases e118
                replace p118 := eq_true p118
                replace q118 := eq_true q118
                go_wp2
                go_roundg k1
                case measure => have := HK1.out; omega
                case rel => exact ⟨(x5_1 ++ (rdOf ByteArray.empty l0 x10_1)), (wrap64 (x10_1 + 1)), (by first | rfl | (simp; done) | (simp [*]; done)), (by first | rfl | (simp; done) | (simp [*]; done)), H', ⟨by have := HK1.out; omega⟩, by repeat (first | exact Drawn0.refl _ | apply Drawn0.step)⟩
              · rw [if_neg c9] at H
                exact absurd H (by simp)
          · rw [if_neg c5] at H
            exact absurd H (by simp)
        · rw [if_neg c4] at H
          exact absurd H (by simp)
      · rw [if_neg c3] at H
        have c3b0 : decide (x10_1 < (l0.length : Int)) = false := decide_eq_false c3
        clear c3
        obtain rfl := Option.some.inj H
        go_wp2
        go_ret
        exact ⟨by first | rfl | (simp; done) | (simp [*]; done), by repeat (first | exact Drawn0.refl _ | apply Drawn0.step)⟩

/-! ### spec_parted: function 19 -/
def spec_parted.l0 : Nat → ByteArray → Int → List ByteArray → Int → Int → Int → Option (List ByteArray)
  | 0, _, _, _, _, _, _ => none
  | k + 1, x0, x1, x5, x6, x9, x10 => if x10 < x9 then (if 0 ≤ x10 then (if x10 < (x0.size : Int) then (if (bt x0 x10) = x1 then (if 0 ≤ x6 then (if x6 ≤ x10 then (if x10 ≤ (x0.size : Int) then (if x5.length < 8796093022208 then (spec_parted.l0 k x0 x1 (x5 ++ [x0.extract (x6 : Int).toNat (x10 : Int).toNat]) (wrap64 (x10 + 1)) x9 (wrap64 (x10 + 1))) else (none)) else (none)) else (none)) else (none)) else (spec_parted.l0 k x0 x1 x5 x6 x9 (wrap64 (x10 + 1)))) else (none)) else (none)) else (if 0 ≤ x6 then (if x6 ≤ (x0.size : Int) then (if x5.length < 8796093022208 then (some (x5 ++ [x0.extract (x6 : Int).toNat x0.size])) else (none)) else (none)) else (none))
def spec_parted.f (k : Nat) (a0 : ByteArray) (a1 : Int) : Option (List ByteArray) := spec_parted.l0 k a0 a1 ([] : List ByteArray) 0 (a0.size : Int) 0
theorem spec_parted.mono_l : ∀ k, (∀ y0 y1 y2 y3 y4 y5, LeO (spec_parted.l0 k y0 y1 y2 y3 y4 y5) (spec_parted.l0 (k + 1) y0 y1 y2 y3 y4 y5))
  | 0 => fun _ _ _ _ _ _ r h => by simp [spec_parted.l0] at h
  | k + 1 => by
    have ih0 := spec_parted.mono_l k
    · intro y0 y1 y2 y3 y4 y5
      unfold spec_parted.l0
      repeat' first
      | (with_reducible exact ih0 _ _ _ _ _ _)
      | (with_reducible exact LeO.refl _)
      | (with_reducible exact LeO.none _)
      | (with_reducible refine LeO.ite ?_ ?_)
      | (with_reducible refine LeO.bind ?_ (fun _ => ?_))
      | exact ih0 _ _ _ _ _ _
      | exact LeO.none _
      | refine LeO.ite ?_ ?_
      | refine LeO.bind ?_ (fun _ => ?_)
theorem spec_parted.mono : ∀ a0 a1 k, LeO (spec_parted.f k a0 a1) (spec_parted.f (k + 1) a0 a1) := by
  intro a0 a1 k
  have ih0 := spec_parted.mono_l k
  unfold spec_parted.f
  repeat' first
      | (with_reducible exact ih0 _ _ _ _ _ _)
      | (with_reducible exact LeO.refl _)
      | (with_reducible exact LeO.none _)
      | (with_reducible refine LeO.ite ?_ ?_)
      | (with_reducible refine LeO.bind ?_ (fun _ => ?_))
      | exact ih0 _ _ _ _ _ _
      | exact LeO.none _
      | refine LeO.ite ?_ ?_
      | refine LeO.bind ?_ (fun _ => ?_)
set_option maxHeartbeats 8000000 in
set_option maxRecDepth 100000 in
theorem spec_parted.calls (k : Nat) (a0 : ByteArray) (a1 : Int) (r : List ByteArray) (w : World) (h : spec_parted.f k a0 a1 = some r) :
    Calls Tryz.prog 19 #[.string a0, .int .u8 a1] w fun e w' => ∃ v0_ : Value, e = .returned (v0_) ∧ Kd.R Kd.string 9 w' w.heap.size (fun _ => True) v0_ r ∧ Below w.heap.size w w' := by
  have HB := Aside0.mk (Below.refl w.heap.size w)
  have H : (spec_parted.l0 k a0 a1 ([] : List ByteArray) 0 (a0.size : Int) 0) = some r := h
  clear h
  have H' := Aside0.mk H
  clear H
  go_enter Tryz.func19, Tryz.ntmps19
  go_wp2
  go_loopg [5, 6, 10] k (fun kq v5 v6 v10 w' => ∃ (x5_1 : List ByteArray) (x6_1 : Int) (x10_1 : Int), v6 = .int .i64 x6_1 ∧ v10 = .int .i64 x10_1 ∧ Aside0 (spec_parted.l0 kq a0 a1 x5_1 x6_1 (a0.size : Int) x10_1 = some r) ∧ Aside0 (kq ≤ k) ∧ Aside0 (Kd.R Kd.string 9 w' w.heap.size (fun _ => True) v5 x5_1) ∧ Aside0 (Below w.heap.size w w'))
  case atStart => exact ⟨(([] : List ByteArray)), (0), (0), (by first | rfl | (simp; done) | (simp [*]; done)), (by first | rfl | (simp; done) | (simp [*]; done)), H', ⟨Nat.le_refl _⟩, ⟨by first | exact Kd.R_nil _ _ _ _ _ | exact Kd.N_nil _ _ _ _ _ | exact Kd.V_nil _ _ _ _ _ | exact Kd.Q_nil _ _ _ _ _ | exact Kd.S_nil _ _ _ _ _⟩, ⟨by repeat (first | (with_reducible first | exact HB.out | apply below_alloc | apply pw_below_drewN | apply below_drew1) | exact HB.out)⟩⟩
  case round =>
    clear H'
    try clear c1
    try clear p2
    obtain ⟨x5_1, x6_1, x10_1, rfl, rfl, HA, HK1, HO_5, HB⟩ := hrel
    cases gk with
    | zero => exact absurd HA.out (by simp [spec_parted.l0])
    | succ k1 =>
      have H := HA.out
      clear HA
      simp only [spec_parted.l0] at H
      by_cases c3 : x10_1 < (a0.size : Int)
      · rw [if_pos c3] at H
        have c3b0 : decide (x10_1 < (a0.size : Int)) = true := decide_eq_true c3
        clear c3
        by_cases c4 : 0 ≤ x10_1
        · rw [if_pos c4] at H
          have c4b0 : decide (0 ≤ x10_1) = true := decide_eq_true c4
          clear c4
          by_cases c5 : x10_1 < (a0.size : Int)
          · rw [if_pos c5] at H
            have c5b0 : decide (x10_1 < (a0.size : Int)) = true := decide_eq_true c5
            clear c5
            by_cases c7 : (bt a0 x10_1) = a1
            · rw [if_pos c7] at H
              have c7b0 : ((bt a0 x10_1) == a1) = true := beq_iff_eq.mpr c7
              have c7b1 : ((bt a0 x10_1) != a1) = false := bne_eq_false_iff_eq.mpr c7
              clear c7
              by_cases c8 : 0 ≤ x6_1
              · rw [if_pos c8] at H
                have c8b0 := eq_true c8
                have c8b1 : decide (0 ≤ x6_1) = true := decide_eq_true c8
                clear c8
                by_cases c9 : x6_1 ≤ x10_1
                · rw [if_pos c9] at H
                  have c9b0 := eq_true c9
                  have c9b1 : decide (x6_1 ≤ x10_1) = true := decide_eq_true c9
                  clear c9
                  by_cases c10 : x10_1 ≤ (a0.size : Int)
                  · rw [if_pos c10] at H
                    have c10b0 := eq_true c10
                    have c10b1 : decide (x10_1 ≤ (a0.size : Int)) = true := decide_eq_true c10
                    clear c10
                    by_cases c11 : x5_1.length < 8796093022208
                    · rw [if_pos c11] at H
                      have LMc11 := Aside0.mk c11
                      clear c11
                      obtain ⟨y119, hy119⟩ : ∃ y_ : List ByteArray, y_ = (x5_1 ++ [a0.extract (x6_1 : Int).toNat (x10_1 : Int).toNat]) := ⟨_, rfl⟩
                      replace H : (spec_parted.l0 k1 a0 a1 y119 (wrap64 (x10_1 + 1)) (a0.size : Int) (wrap64 (x10_1 + 1))) = some r := by first | (rw [hy119]; with_reducible exact H) | (have H2_ := (Option.bind_some _ _).symm.trans H; rw [hy119]; with_reducible exact H2_) | (have H2_ := (Option.bind_some _ _).symm.trans H; with_reducible exact H2_) | with_reducible exact H | (rw [hy119]; exact H) | exact H
                      have Ny119 := Aside0.mk hy119
                      clear hy119
                      have H' := Aside0.mk H
                      clear H
                      have p6 : 0 ≤ (x10_1 : Int) := of_decide_eq_true (by first | (with_reducible assumption) | assumption)
                      have q6 : x10_1 < (a0.size : Int) := of_decide_eq_true (by first | (with_reducible assumption) | assumption)
                      have hx6 := bt_at a0 x10_1
                      replace p6 := eq_true p6
                      replace q6 := eq_true q6
                      go_wp2_with (first | ((with_reducible refine gate_builtin (b := .append) (xs := #[.tmp 18, .tmp 23]) rfl ?_); at_builtin; refine Kd.R_append Kd.string (w0 := w) w.heap.size rfl (.tmp 18) (.tmp 23) 22 9 (.string ⟨#[]⟩) 16 rfl Tryz.underlying22 info9 rfl (by decide) (by omega) u5 x5_1 (a0.extract (x6_1 : Int).toNat (x10_1 : Int).toNat) [.string (a0.extract (x6_1 : Int).toNat (x10_1 : Int).toNat)] (fun _ => True) (fun _ => False) rfl rfl ?aP (fun _ hk => hk.elim) ?aF ?aO ?aB ?aS ?aL ?_; (case aP => exact rfl); (case aB => exact (by repeat (first | (with_reducible first | exact HB.out | apply below_alloc | apply pw_below_drewN | apply below_drew1) | exact HB.out))); (case aF => exact (fun _ _ => trivial)); (case aO => exact (by (with_reducible repeat (first | apply Kd.R_alloc | apply Kd.R_drewN | apply Kd.R_drew)); exact HO_5.out)); (case aS => exact (below_size (by repeat (first | (with_reducible first | exact HB.out | apply below_alloc | apply pw_below_drewN | apply below_drew1) | exact HB.out)))); (case aL => have := LMc11.out; omega); intro v120 w12 ho hb hg hat; rw [← Ny119.out] at ho; have n0_ := Aside0.mk (hb); have n1_ := Aside0.mk (ho); clear HB; clear HO_5; have HB := n0_; have HO121 := n1_; clear n0_ n1_; clear ho hb hg hat))
                      go_roundg k1
                      case measure => have := HK1.out; omega
                      case rel => exact ⟨(y119), (wrap64 (x10_1 + 1)), (wrap64 (x10_1 + 1)), (by first | rfl | (simp; done) | (simp [*]; done)), (by first | rfl | (simp; done) | (simp [*]; done)), H', ⟨by have := HK1.out; omega⟩, ⟨by (with_reducible repeat (first | apply Kd.R_alloc | apply Kd.R_drewN | apply Kd.R_drew)); exact HO121.out⟩, ⟨by repeat (first | (with_reducible first | exact HB.out | apply below_alloc | apply pw_below_drewN | apply below_drew1) | exact HB.out)⟩⟩
                    · rw [if_neg c11] at H
                      exact absurd H (by simp)
                  · rw [if_neg c10] at H
                    exact absurd H (by simp)
                · rw [if_neg c9] at H
                  exact absurd H (by simp)
              · rw [if_neg c8] at H
                exact absurd H (by simp)
            · rw [if_neg c7] at H
              have c7b0 : ((bt a0 x10_1) == a1) = false := beq_eq_false_iff_ne.mpr c7
              have c7b1 : ((bt a0 x10_1) != a1) = true := bne_iff_ne.mpr c7
              have H' := Aside0.mk H
              clear H
              have p6 : 0 ≤ (x10_1 : Int) := of_decide_eq_true (by first | (with_reducible assumption) | assumption)
              have q6 : x10_1 < (a0.size : Int) := of_decide_eq_true (by first | (with_reducible assumption) | assumption)
              have hx6 := bt_at a0 x10_1
              replace p6 := eq_true p6
              replace q6 := eq_true q6
              go_wp2
              go_roundg k1
              case measure => have := HK1.out; omega
              case rel => exact ⟨(x5_1), (x6_1), (wrap64 (x10_1 + 1)), (by first | rfl | (simp; done) | (simp [*]; done)), (by first | rfl | (simp; done) | (simp [*]; done)), H', ⟨by have := HK1.out; omega⟩, ⟨by (with_reducible repeat (first | apply Kd.R_alloc | apply Kd.R_drewN | apply Kd.R_drew)); exact HO_5.out⟩, ⟨by repeat (first | (with_reducible first | exact HB.out | apply below_alloc | apply pw_below_drewN | apply below_drew1) | exact HB.out)⟩⟩
          · rw [if_neg c5] at H
            exact absurd H (by simp)
        · rw [if_neg c4] at H
          exact absurd H (by simp)
      · rw [if_neg c3] at H
        have c3b0 : decide (x10_1 < (a0.size : Int)) = false := decide_eq_false c3
        clear c3
        by_cases c13 : 0 ≤ x6_1
        · rw [if_pos c13] at H
          have c13b0 := eq_true c13
          have c13b1 : decide (0 ≤ x6_1) = true := decide_eq_true c13
          clear c13
          by_cases c14 : x6_1 ≤ (a0.size : Int)
          · rw [if_pos c14] at H
            have c14b0 := eq_true c14
            have c14b1 : decide (x6_1 ≤ (a0.size : Int)) = true := decide_eq_true c14
            clear c14
            by_cases c15 : x5_1.length < 8796093022208
            · rw [if_pos c15] at H
              have LMc15 := Aside0.mk c15
              clear c15
              obtain ⟨y122, hy122⟩ : ∃ y_ : List ByteArray, y_ = (x5_1 ++ [a0.extract (x6_1 : Int).toNat a0.size]) := ⟨_, rfl⟩
              replace H : (some y122) = some r := by first | (rw [hy122]; with_reducible exact H) | (have H2_ := (Option.bind_some _ _).symm.trans H; rw [hy122]; with_reducible exact H2_) | (have H2_ := (Option.bind_some _ _).symm.trans H; with_reducible exact H2_) | with_reducible exact H | (rw [hy122]; exact H) | exact H
              have Ny122 := Aside0.mk hy122
              clear hy122
              obtain rfl := Option.some.inj H
              go_wp2_with (first | ((with_reducible refine gate_builtin (b := .append) (xs := #[.tmp 28, .tmp 32]) rfl ?_); at_builtin; refine Kd.R_append Kd.string (w0 := w) w.heap.size rfl (.tmp 28) (.tmp 32) 22 9 (.string ⟨#[]⟩) 16 rfl Tryz.underlying22 info9 rfl (by decide) (by omega) u5 x5_1 (a0.extract (x6_1 : Int).toNat a0.size) [.string (a0.extract (x6_1 : Int).toNat a0.size)] (fun _ => True) (fun _ => False) rfl rfl ?aP (fun _ hk => hk.elim) ?aF ?aO ?aB ?aS ?aL ?_; (case aP => exact rfl); (case aB => exact (by repeat (first | (with_reducible first | exact HB.out | apply below_alloc | apply pw_below_drewN | apply below_drew1) | exact HB.out))); (case aF => exact (fun _ _ => trivial)); (case aO => exact (by (with_reducible repeat (first | apply Kd.R_alloc | apply Kd.R_drewN | apply Kd.R_drew)); exact HO_5.out)); (case aS => exact (below_size (by repeat (first | (with_reducible first | exact HB.out | apply below_alloc | apply pw_below_drewN | apply below_drew1) | exact HB.out)))); (case aL => have := LMc15.out; omega); intro v123 w16 ho hb hg hat; rw [← Ny122.out] at ho; have n0_ := Aside0.mk (hb); have n1_ := Aside0.mk (ho); clear HB; clear HO_5; have HB := n0_; have HO124 := n1_; clear n0_ n1_; clear ho hb hg hat))
              go_ret
              exact ⟨_, by first | rfl | (simp [errW_none, errW_some] <;> rfl) | (simp [*, errW_none, errW_some] <;> rfl), by (with_reducible repeat (first | apply Kd.R_alloc | apply Kd.R_drewN | apply Kd.R_drew)); exact HO124.out, by repeat (first | (with_reducible first | exact HB.out | apply below_alloc | apply pw_below_drewN | apply below_drew1) | exact HB.out)⟩
            · rw [if_neg c15] at H
              exact absurd H (by simp)
          · rw [if_neg c14] at H
            exact absurd H (by simp)
        · rw [if_neg c13] at H
          exact absurd H (by simp)

/-! ### spec_starless: function 12 -/
def spec_starless.f (k : Nat) (a0 : ByteArray) : Option (ByteArray) := (spec_parted.f k a0 42).bind fun t125 => ((spec_joinTexts.f k t125 (⟨#[]⟩ : ByteArray)).bind fun t128 => (some t128))
theorem spec_starless.mono : ∀ a0 k, LeO (spec_starless.f k a0) (spec_starless.f (k + 1) a0) := by
  intro a0 k
  unfold spec_starless.f
  repeat' first
      | (with_reducible exact spec_joinTexts.mono _ _ _)
      | (with_reducible exact spec_parted.mono _ _ _)
      | (with_reducible exact LeO.refl _)
      | (with_reducible exact LeO.none _)
      | (with_reducible refine LeO.ite ?_ ?_)
      | (with_reducible refine LeO.bind ?_ (fun _ => ?_))
      | exact spec_joinTexts.mono _ _ _
      | exact spec_parted.mono _ _ _
      | exact LeO.none _
      | refine LeO.ite ?_ ?_
      | refine LeO.bind ?_ (fun _ => ?_)
set_option maxHeartbeats 8000000 in
set_option maxRecDepth 100000 in
theorem spec_starless.calls (k : Nat) (a0 : ByteArray) (r : ByteArray) (w : World) (h : spec_starless.f k a0 = some r) :
    Calls Tryz.prog 12 #[.string a0] w fun e w' => e = .returned (.string r) ∧ Below w.heap.size w w' := by
  have HB := Aside0.mk (Below.refl w.heap.size w)
  have H : ((spec_parted.f k a0 42).bind fun t125 => ((spec_joinTexts.f k t125 (⟨#[]⟩ : ByteArray)).bind fun t128 => (some t128))) = some r := h
  clear h
  replace H := Option.bind_eq_some_iff.mp H
  obtain ⟨t125, A20, H⟩ := H
  replace H : ((spec_joinTexts.f k t125 (⟨#[]⟩ : ByteArray)).bind fun t128 => (some t128)) = some r := H
  have A2 := Aside0.mk A20
  clear A20
  replace H := Option.bind_eq_some_iff.mp H
  obtain ⟨t128, A30, H⟩ := H
  replace H : (some t128) = some r := H
  have A3 := Aside0.mk A30
  clear A30
  obtain rfl := Option.some.inj H
  go_enter Tryz.func12, Tryz.ntmps12
  go_wp2_with (first | ((with_reducible refine gate_callee (f := 19) rfl ?_); refine goesL_ (some 4) rfl rfl Tryz.func19 (by kernel_rfl) rfl #[.string a0, .int .u8 42] rfl (by (try simp only [List.map_toArray, List.map_cons, List.map_nil]); first | done | rfl | (simp only [List.length_drop, List.length_take]; rfl)) ?_; (with_reducible refine (spec_parted.calls k a0 42 t125 _ A2.out).mono ?_); rintro e w4 ⟨v126, rfl, ho0, hb⟩; refine ⟨_, rfl, ?_⟩; have n0_ := Aside0.mk (Kd.R_lower ho0 (below_size (by repeat (first | (with_reducible first | exact HB.out | apply below_alloc | apply pw_below_drewN | apply below_drew1) | exact HB.out)))); have n1_ := Aside0.mk (below_step (by repeat (first | (with_reducible first | exact HB.out | apply below_alloc | apply pw_below_drewN | apply below_drew1) | exact HB.out)) hb); clear HB; have HO127 := n0_; have HB := n1_; clear n0_ n1_; (try clear hb); (try clear hb2); (try clear hk); (try clear hi); (try clear ho0); obtain ⟨Ao5, co5, eo5⟩ := Kd.R_slice HO127.out; subst eo5) | ((with_reducible refine gate_callee (f := 18) rfl ?_); refine goesL_ (some 5) rfl rfl Tryz.func18 (by kernel_rfl) rfl #[.slice Ao5 t125.length co5, .string (⟨#[]⟩ : ByteArray)] rfl (by (try simp only [List.map_toArray, List.map_cons, List.map_nil]); first | done | rfl | (simp only [List.length_drop, List.length_take]; rfl)) ?_; (with_reducible refine (spec_joinTexts.calls k _ _ t125 (⟨#[]⟩ : ByteArray) t128 _ ?side1 ?side2 A3.out).mono ?_); (case side1 => repeat (first | exact (Kd.R_reads' HO127.out).2.2 | (with_reducible refine Kd.C_alloc ?_ _) | (with_reducible refine Kd.C_drewN ?_ _) | (with_reducible refine Kd.C_drew ?_))); (case side2 => exact (Kd.R_reads' HO127.out).2.1); rintro e w' ⟨rfl, ⟨nd, rfl⟩⟩; refine ⟨_, rfl, ?_⟩))
  go_ret
  exact ⟨by first | rfl | (simp [errW_none, errW_some] <;> rfl) | (simp [*, errW_none, errW_some] <;> rfl), by repeat (first | (with_reducible first | exact HB.out | apply below_alloc | apply pw_below_drewN | apply below_drew1) | exact HB.out)⟩

/-! ### spec_Find: function 7 -/
def spec_Find.l0 : Nat → ByteArray → ByteArray → Int → List ByteArray → Int → Int → Option (ByteArray × Bool × Int)
  | 0, _, _, _, _, _, _ => none
  | k + 1, x1, x9, x10, x22, x23, x24 => if x24 < x23 then (if 0 ≤ x24 then (if x24 < (x22.length : Int) then ((spec_pieces.f k (rdOf ByteArray.empty x22 x24)).bind fun bt134 => (if bt134.2 = 1 then (if (rdOf ByteArray.empty x22 x24).toList = x1.toList then (some (rdOf ByteArray.empty x22 x24, true, 1)) else ((spec_plainPath.f k (rdOf ByteArray.empty x22 x24)).bind fun t138 => ((spec_plainPath.f k x1).bind fun t139 => (if t138.toList = t139.toList then (spec_Find.l0 k x1 (rdOf ByteArray.empty x22 x24) (wrap64 (x10 + 1)) x22 x23 (wrap64 (x24 + 1))) else ((spec_plainPath.f k (rdOf ByteArray.empty x22 x24)).bind fun t140 => ((spec_starless.f k t140).bind fun t141 => ((spec_plainPath.f k x1).bind fun t142 => ((spec_starless.f k t142).bind fun t143 => (if t141.toList = t143.toList then (spec_Find.l0 k x1 x9 (wrap64 (x10 + 2)) x22 x23 (wrap64 (x24 + 1))) else (spec_Find.l0 k x1 x9 x10 x22 x23 (wrap64 (x24 + 1)))))))))))) else (some ((⟨#[]⟩ : ByteArray), false, 2)))) else (none)) else (none)) else (if x10 > 1 then (some ((⟨#[]⟩ : ByteArray), false, 2)) else (some (x9, (x10 == 1), 1)))
def spec_Find.f (k : Nat) (l0 : List ByteArray) (a1 : ByteArray) : Option (ByteArray × Bool × Int) := (spec_pieces.f k a1).bind fun bt129 => (if bt129.2 = 1 then (spec_Find.l0 k a1 (⟨#[]⟩ : ByteArray) 0 l0 (l0.length : Int) 0) else (some ((⟨#[]⟩ : ByteArray), false, 2)))
theorem spec_Find.mono_l : ∀ k, (∀ y0 y1 y2 y3 y4 y5, LeO (spec_Find.l0 k y0 y1 y2 y3 y4 y5) (spec_Find.l0 (k + 1) y0 y1 y2 y3 y4 y5))
  | 0 => fun _ _ _ _ _ _ r h => by simp [spec_Find.l0] at h
  | k + 1 => by
    have ih0 := spec_Find.mono_l k
    · intro y0 y1 y2 y3 y4 y5
      unfold spec_Find.l0
      repeat' first
      | (with_reducible exact ih0 _ _ _ _ _ _)
      | (with_reducible exact spec_pieces.mono _ _)
      | (with_reducible exact spec_plainPath.mono _ _)
      | (with_reducible exact spec_starless.mono _ _)
      | (with_reducible exact LeO.refl _)
      | (with_reducible exact LeO.none _)
      | (with_reducible refine LeO.ite ?_ ?_)
      | (with_reducible refine LeO.bind ?_ (fun _ => ?_))
      | exact ih0 _ _ _ _ _ _
      | exact spec_pieces.mono _ _
      | exact spec_plainPath.mono _ _
      | exact spec_starless.mono _ _
      | exact LeO.none _
      | refine LeO.ite ?_ ?_
      | refine LeO.bind ?_ (fun _ => ?_)
theorem spec_Find.mono : ∀ a0 a1 k, LeO (spec_Find.f k a0 a1) (spec_Find.f (k + 1) a0 a1) := by
  intro a0 a1 k
  have ih0 := spec_Find.mono_l k
  unfold spec_Find.f
  repeat' first
      | (with_reducible exact ih0 _ _ _ _ _ _)
      | (with_reducible exact spec_pieces.mono _ _)
      | (with_reducible exact spec_plainPath.mono _ _)
      | (with_reducible exact spec_starless.mono _ _)
      | (with_reducible exact LeO.refl _)
      | (with_reducible exact LeO.none _)
      | (with_reducible refine LeO.ite ?_ ?_)
      | (with_reducible refine LeO.bind ?_ (fun _ => ?_))
      | exact ih0 _ _ _ _ _ _
      | exact spec_pieces.mono _ _
      | exact spec_plainPath.mono _ _
      | exact spec_starless.mono _ _
      | exact LeO.none _
      | refine LeO.ite ?_ ?_
      | refine LeO.bind ?_ (fun _ => ?_)
set_option maxHeartbeats 8000000 in
set_option maxRecDepth 100000 in
theorem spec_Find.calls (k : Nat) (A0 : Option Addr) (c0 : Nat) (l0 : List ByteArray) (a1 : ByteArray) (r1 : ByteArray) (r2 : Bool) (r3 : Int) (w : World) (hr0 : Kd.C Kd.string w A0 l0.length l0) (hc0 : l0.length ≤ c0) (h : spec_Find.f k l0 a1 = some (r1, r2, r3)) :
    Calls Tryz.prog 7 #[.slice A0 l0.length c0, .string a1] w fun e w' => e = .returned (.tuple #[.string r1, .bool r2, .int .i64 r3]) ∧ Below w.heap.size w w' := by
  have HR0 := Aside0.mk hr0
  have HC0 := Aside0.mk hc0
  clear hr0 hc0
  have HB := Aside0.mk (Below.refl w.heap.size w)
  have H : ((spec_pieces.f k a1).bind fun bt129 => (if bt129.2 = 1 then (spec_Find.l0 k a1 (⟨#[]⟩ : ByteArray) 0 l0 (l0.length : Int) 0) else (some ((⟨#[]⟩ : ByteArray), false, 2)))) = some (r1, r2, r3) := h
  clear h
  replace H := Option.bind_eq_some_iff.mp H
  obtain ⟨⟨t129, t130⟩, A30, H⟩ := H
  replace H : (if t130 = 1 then (spec_Find.l0 k a1 (⟨#[]⟩ : ByteArray) 0 l0 (l0.length : Int) 0) else (some ((⟨#[]⟩ : ByteArray), false, 2))) = some (r1, r2, r3) := H
  have A3 := Aside0.mk A30
  clear A30
  by_cases c4 : t130 = 1
  · rw [if_pos c4] at H
    have c4b0 : (t130 == 1) = true := beq_iff_eq.mpr c4
    have c4b1 : (t130 != 1) = false := bne_eq_false_iff_eq.mpr c4
    clear c4
    have H' := Aside0.mk H
    clear H
    go_enter Tryz.func7, Tryz.ntmps7
    go_wp2_with (first | ((with_reducible refine gate_callee (f := 10) rfl ?_); refine goesL_ (some 17) rfl rfl Tryz.func10 (by kernel_rfl) rfl #[.string a1] rfl (by (try simp only [List.map_toArray, List.map_cons, List.map_nil]); first | done | rfl | (simp only [List.length_drop, List.length_take]; rfl)) ?_; (with_reducible refine (spec_pieces.calls k a1 t129 t130 _ A3.out).mono ?_); rintro e w5 ⟨v131, rfl, ho0, hb⟩; refine ⟨_, rfl, ?_⟩; have n0_ := Aside0.mk (Kd.R_lower ho0 (below_size (by repeat (first | (with_reducible first | exact HB.out | apply below_alloc | apply pw_below_drewN | apply below_drew1) | exact HB.out)))); have n1_ := Aside0.mk (below_step (by repeat (first | (with_reducible first | exact HB.out | apply below_alloc | apply pw_below_drewN | apply below_drew1) | exact HB.out)) hb); clear HB; have HO132 := n0_; have HB := n1_; clear n0_ n1_; (try clear hb); (try clear hb2); (try clear hk); (try clear hi); (try clear ho0)))
    go_loopg [9, 10, 24] k (fun kq v9 v10 v24 w' => ∃ (x9_1 : ByteArray) (x10_1 : Int) (x24_1 : Int), v9 = .string x9_1 ∧ v10 = .int .i64 x10_1 ∧ v24 = .int .i64 x24_1 ∧ Aside0 (spec_Find.l0 kq a1 x9_1 x10_1 l0 (l0.length : Int) x24_1 = some (r1, r2, r3)) ∧ Aside0 (kq ≤ k) ∧ Aside0 (Below w.heap.size w w'))
    case atStart => exact ⟨((⟨#[]⟩ : ByteArray)), (0), (0), (by first | rfl | (simp; done) | (simp [*]; done)), (by first | rfl | (simp; done) | (simp [*]; done)), (by first | rfl | (simp; done) | (simp [*]; done)), H', ⟨Nat.le_refl _⟩, ⟨by repeat (first | (with_reducible first | exact HB.out | apply below_alloc | apply pw_below_drewN | apply below_drew1) | exact HB.out)⟩⟩
    case round =>
      clear H'
      try clear c1
      try clear p2
      try clear c4
      try clear c4b0
      try clear c4b1
      obtain ⟨x9_1, x10_1, x24_1, rfl, rfl, rfl, HA, HK1, HB⟩ := hrel
      cases gk with
      | zero => exact absurd HA.out (by simp [spec_Find.l0])
      | succ k1 =>
        have H := HA.out
        clear HA
        simp only [spec_Find.l0] at H
        by_cases c6 : x24_1 < (l0.length : Int)
        · rw [if_pos c6] at H
          have c6b0 : decide (x24_1 < (l0.length : Int)) = true := decide_eq_true c6
          clear c6
          by_cases c7 : 0 ≤ x24_1
          · rw [if_pos c7] at H
            have c7b0 : decide (0 ≤ x24_1) = true := decide_eq_true c7
            clear c7
            by_cases c8 : x24_1 < (l0.length : Int)
            · rw [if_pos c8] at H
              have c8b0 : decide (x24_1 < (l0.length : Int)) = true := decide_eq_true c8
              clear c8
              replace H := Option.bind_eq_some_iff.mp H
              obtain ⟨⟨t134, t135⟩, A90, H⟩ := H
              replace H : (if t135 = 1 then (if (rdOf ByteArray.empty l0 x24_1).toList = a1.toList then (some (rdOf ByteArray.empty l0 x24_1, true, 1)) else ((spec_plainPath.f k1 (rdOf ByteArray.empty l0 x24_1)).bind fun t138 => ((spec_plainPath.f k1 a1).bind fun t139 => (if t138.toList = t139.toList then (spec_Find.l0 k1 a1 (rdOf ByteArray.empty l0 x24_1) (wrap64 (x10_1 + 1)) l0 (l0.length : Int) (wrap64 (x24_1 + 1))) else ((spec_plainPath.f k1 (rdOf ByteArray.empty l0 x24_1)).bind fun t140 => ((spec_starless.f k1 t140).bind fun t141 => ((spec_plainPath.f k1 a1).bind fun t142 => ((spec_starless.f k1 t142).bind fun t143 => (if t141.toList = t143.toList then (spec_Find.l0 k1 a1 x9_1 (wrap64 (x10_1 + 2)) l0 (l0.length : Int) (wrap64 (x24_1 + 1))) else (spec_Find.l0 k1 a1 x9_1 x10_1 l0 (l0.length : Int) (wrap64 (x24_1 + 1)))))))))))) else (some ((⟨#[]⟩ : ByteArray), false, 2))) = some (r1, r2, r3) := H
              have A9 := Aside0.mk A90
              clear A90
              by_cases c10 : t135 = 1
              · rw [if_pos c10] at H
                have c10b0 : (t135 == 1) = true := beq_iff_eq.mpr c10
                have c10b1 : (t135 != 1) = false := bne_eq_false_iff_eq.mpr c10
                clear c10
                by_cases c11 : (rdOf ByteArray.empty l0 x24_1).toList = a1.toList
                · rw [if_pos c11] at H
                  have c11b0 : ((rdOf ByteArray.empty l0 x24_1).toList == a1.toList) = true := beq_iff_eq.mpr c11
                  have c11b1 : ((rdOf ByteArray.empty l0 x24_1).toList != a1.toList) = false := bne_eq_false_iff_eq.mpr c11
                  clear c11
                  simp only [Option.some.injEq, Prod.mk.injEq] at H
                  obtain ⟨rfl, rfl, rfl⟩ := H
                  have p133 : 0 ≤ (x24_1 : Int) := of_decide_eq_true (by first | (with_reducible assumption) | assumption)
                  have q133 : x24_1 < (l0.length : Int) := of_decide_eq_true (by first | (with_reducible assumption) | assumption)
                  obtain ⟨ad133, e133, hx133_0⟩ := Kd.at_string HR0.out x24_1 p133 q133
                  cases e133
                  replace hx133_0 := (HB.out.cell (World.block_lt_of_cell? w _ hx133_0)).trans hx133_0
                  replace p133 := eq_true p133
                  replace q133 := eq_true q133
                  go_wp2_with (first | ((with_reducible refine gate_callee (f := 10) rfl ?_); refine goesL_ (some 30) rfl rfl Tryz.func10 (by kernel_rfl) rfl #[.string (rdOf ByteArray.empty l0 x24_1)] rfl (by (try simp only [List.map_toArray, List.map_cons, List.map_nil]); first | done | rfl | (simp only [List.length_drop, List.length_take]; rfl)) ?_; (with_reducible refine (spec_pieces.calls k1 (rdOf ByteArray.empty l0 x24_1) t134 t135 _ A9.out).mono ?_); rintro e w12 ⟨v136, rfl, ho0, hb⟩; refine ⟨_, rfl, ?_⟩; have n0_ := Aside0.mk (Kd.R_lower ho0 (below_size (by repeat (first | (with_reducible first | exact HB.out | apply below_alloc | apply pw_below_drewN | apply below_drew1) | exact HB.out)))); have n1_ := Aside0.mk (below_step (by repeat (first | (with_reducible first | exact HB.out | apply below_alloc | apply pw_below_drewN | apply below_drew1) | exact HB.out)) hb); clear HB; have HO137 := n0_; have HB := n1_; clear n0_ n1_; (try clear hb); (try clear hb2); (try clear hk); (try clear hi); (try clear ho0)))
                  go_ret3
                  exact ⟨by first | rfl | (simp [errW_none, errW_some] <;> rfl) | (simp [*, errW_none, errW_some] <;> rfl), by repeat (first | (with_reducible first | exact HB.out | apply below_alloc | apply pw_below_drewN | apply below_drew1) | exact HB.out)⟩
                · rw [if_neg c11] at H
                  have c11b0 : ((rdOf ByteArray.empty l0 x24_1).toList == a1.toList) = false := beq_eq_false_iff_ne.mpr c11
                  have c11b1 : ((rdOf ByteArray.empty l0 x24_1).toList != a1.toList) = true := bne_iff_ne.mpr c11
                  replace H := Option.bind_eq_some_iff.mp H
                  obtain ⟨t138, A130, H⟩ := H
                  replace H : ((spec_plainPath.f k1 a1).bind fun t139 => (if t138.toList = t139.toList then (spec_Find.l0 k1 a1 (rdOf ByteArray.empty l0 x24_1) (wrap64 (x10_1 + 1)) l0 (l0.length : Int) (wrap64 (x24_1 + 1))) else ((spec_plainPath.f k1 (rdOf ByteArray.empty l0 x24_1)).bind fun t140 => ((spec_starless.f k1 t140).bind fun t141 => ((spec_plainPath.f k1 a1).bind fun t142 => ((spec_starless.f k1 t142).bind fun t143 => (if t141.toList = t143.toList then (spec_Find.l0 k1 a1 x9_1 (wrap64 (x10_1 + 2)) l0 (l0.length : Int) (wrap64 (x24_1 + 1))) else (spec_Find.l0 k1 a1 x9_1 x10_1 l0 (l0.length : Int) (wrap64 (x24_1 + 1)))))))))) = some (r1, r2, r3) := H
                  have A13 := Aside0.mk A130
                  clear A130
                  replace H := Option.bind_eq_some_iff.mp H
                  obtain ⟨t139, A140, H⟩ := H
                  replace H : (if t138.toList = t139.toList then (spec_Find.l0 k1 a1 (rdOf ByteArray.empty l0 x24_1) (wrap64 (x10_1 + 1)) l0 (l0.length : Int) (wrap64 (x24_1 + 1))) else ((spec_plainPath.f k1 (rdOf ByteArray.empty l0 x24_1)).bind fun t140 => ((spec_starless.f k1 t140).bind fun t141 => ((spec_plainPath.f k1 a1).bind fun t142 => ((spec_starless.f k1 t142).bind fun t143 => (if t141.toList = t143.toList then (spec_Find.l0 k1 a1 x9_1 (wrap64 (x10_1 + 2)) l0 (l0.length : Int) (wrap64 (x24_1 + 1))) else (spec_Find.l0 k1 a1 x9_1 x10_1 l0 (l0.length : Int) (wrap64 (x24_1 + 1))))))))) = some (r1, r2, r3) := H
                  have A14 := Aside0.mk A140
                  clear A140
                  by_cases c15 : t138.toList = t139.toList
                  · rw [if_pos c15] at H
                    have c15b0 : (t138.toList == t139.toList) = true := beq_iff_eq.mpr c15
                    have c15b1 : (t138.toList != t139.toList) = false := bne_eq_false_iff_eq.mpr c15
                    clear c15
                    have H' := Aside0.mk H
                    clear H
                    have p133 : 0 ≤ (x24_1 : Int) := of_decide_eq_true (by first | (with_reducible assumption) | assumption)
                    have q133 : x24_1 < (l0.length : Int) := of_decide_eq_true (by first | (with_reducible assumption) | assumption)
                    obtain ⟨ad133, e133, hx133_0⟩ := Kd.at_string HR0.out x24_1 p133 q133
                    cases e133
                    replace hx133_0 := (HB.out.cell (World.block_lt_of_cell? w _ hx133_0)).trans hx133_0
                    replace p133 := eq_true p133
                    replace q133 := eq_true q133
                    go_wp2_with (first | ((with_reducible refine gate_callee (f := 10) rfl ?_); refine goesL_ (some 30) rfl rfl Tryz.func10 (by kernel_rfl) rfl #[.string (rdOf ByteArray.empty l0 x24_1)] rfl (by (try simp only [List.map_toArray, List.map_cons, List.map_nil]); first | done | rfl | (simp only [List.length_drop, List.length_take]; rfl)) ?_; (with_reducible refine (spec_pieces.calls k1 (rdOf ByteArray.empty l0 x24_1) t134 t135 _ A9.out).mono ?_); rintro e w16 ⟨v136, rfl, ho0, hb⟩; refine ⟨_, rfl, ?_⟩; have n0_ := Aside0.mk (Kd.R_lower ho0 (below_size (by repeat (first | (with_reducible first | exact HB.out | apply below_alloc | apply pw_below_drewN | apply below_drew1) | exact HB.out)))); have n1_ := Aside0.mk (below_step (by repeat (first | (with_reducible first | exact HB.out | apply below_alloc | apply pw_below_drewN | apply below_drew1) | exact HB.out)) hb); clear HB; have HO137 := n0_; have HB := n1_; clear n0_ n1_; (try clear hb); (try clear hb2); (try clear hk); (try clear hi); (try clear ho0)) | ((with_reducible refine gate_callee (f := 11) rfl ?_); refine goesL_ (some 40) rfl rfl Tryz.func11 (by kernel_rfl) rfl #[.string (rdOf ByteArray.empty l0 x24_1)] rfl (by (try simp only [List.map_toArray, List.map_cons, List.map_nil]); first | done | rfl | (simp only [List.length_drop, List.length_take]; rfl)) ?_; (with_reducible refine (spec_plainPath.calls k1 (rdOf ByteArray.empty l0 x24_1) t138 _ A13.out).mono ?_); rintro e w' ⟨rfl, ⟨nd, rfl⟩⟩; refine ⟨_, rfl, ?_⟩) | ((with_reducible refine gate_callee (f := 11) rfl ?_); refine goesL_ (some 42) rfl rfl Tryz.func11 (by kernel_rfl) rfl #[.string a1] rfl (by (try simp only [List.map_toArray, List.map_cons, List.map_nil]); first | done | rfl | (simp only [List.length_drop, List.length_take]; rfl)) ?_; (with_reducible refine (spec_plainPath.calls k1 a1 t139 _ A14.out).mono ?_); rintro e w' ⟨rfl, ⟨nd, rfl⟩⟩; refine ⟨_, rfl, ?_⟩))
                    go_roundg k1
                    case measure => have := HK1.out; omega
                    case rel => exact ⟨(rdOf ByteArray.empty l0 x24_1), (wrap64 (x10_1 + 1)), (wrap64 (x24_1 + 1)), (by first | rfl | (simp; done) | (simp [*]; done)), (by first | rfl | (simp; done) | (simp [*]; done)), (by first | rfl | (simp; done) | (simp [*]; done)), H', ⟨by have := HK1.out; omega⟩, ⟨by repeat (first | (with_reducible first | exact HB.out | apply below_alloc | apply pw_below_drewN | apply below_drew1) | exact HB.out)⟩⟩
                  · rw [if_neg c15] at H
                    have c15b0 : (t138.toList == t139.toList) = false := beq_eq_false_iff_ne.mpr c15
                    have c15b1 : (t138.toList != t139.toList) = true := bne_iff_ne.mpr c15
                    replace H := Option.bind_eq_some_iff.mp H
                    obtain ⟨t140, A170, H⟩ := H
                    replace H : ((spec_starless.f k1 t140).bind fun t141 => ((spec_plainPath.f k1 a1).bind fun t142 => ((spec_starless.f k1 t142).bind fun t143 => (if t141.toList = t143.toList then (spec_Find.l0 k1 a1 x9_1 (wrap64 (x10_1 + 2)) l0 (l0.length : Int) (wrap64 (x24_1 + 1))) else (spec_Find.l0 k1 a1 x9_1 x10_1 l0 (l0.length : Int) (wrap64 (x24_1 + 1))))))) = some (r1, r2, r3) := H
                    have A17 := Aside0.mk A170
                    clear A170
                    replace H := Option.bind_eq_some_iff.mp H
                    obtain ⟨t141, A180, H⟩ := H
                    replace H : ((spec_plainPath.f k1 a1).bind fun t142 => ((spec_starless.f k1 t142).bind fun t143 => (if t141.toList = t143.toList then (spec_Find.l0 k1 a1 x9_1 (wrap64 (x10_1 + 2)) l0 (l0.length : Int) (wrap64 (x24_1 + 1))) else (spec_Find.l0 k1 a1 x9_1 x10_1 l0 (l0.length : Int) (wrap64 (x24_1 + 1)))))) = some (r1, r2, r3) := H
                    have A18 := Aside0.mk A180
                    clear A180
                    replace H := Option.bind_eq_some_iff.mp H
                    obtain ⟨t142, A190, H⟩ := H
                    replace H : ((spec_starless.f k1 t142).bind fun t143 => (if t141.toList = t143.toList then (spec_Find.l0 k1 a1 x9_1 (wrap64 (x10_1 + 2)) l0 (l0.length : Int) (wrap64 (x24_1 + 1))) else (spec_Find.l0 k1 a1 x9_1 x10_1 l0 (l0.length : Int) (wrap64 (x24_1 + 1))))) = some (r1, r2, r3) := H
                    have A19 := Aside0.mk A190
                    clear A190
                    replace H := Option.bind_eq_some_iff.mp H
                    obtain ⟨t143, A200, H⟩ := H
                    replace H : (if t141.toList = t143.toList then (spec_Find.l0 k1 a1 x9_1 (wrap64 (x10_1 + 2)) l0 (l0.length : Int) (wrap64 (x24_1 + 1))) else (spec_Find.l0 k1 a1 x9_1 x10_1 l0 (l0.length : Int) (wrap64 (x24_1 + 1)))) = some (r1, r2, r3) := H
                    have A20 := Aside0.mk A200
                    clear A200
                    by_cases c21 : t141.toList = t143.toList
                    · rw [if_pos c21] at H
                      have c21b0 : (t141.toList == t143.toList) = true := beq_iff_eq.mpr c21
                      have c21b1 : (t141.toList != t143.toList) = false := bne_eq_false_iff_eq.mpr c21
                      clear c21
                      have H' := Aside0.mk H
                      clear H
                      have p133 : 0 ≤ (x24_1 : Int) := of_decide_eq_true (by first | (with_reducible assumption) | assumption)
                      have q133 : x24_1 < (l0.length : Int) := of_decide_eq_true (by first | (with_reducible assumption) | assumption)
                      obtain ⟨ad133, e133, hx133_0⟩ := Kd.at_string HR0.out x24_1 p133 q133
                      cases e133
                      replace hx133_0 := (HB.out.cell (World.block_lt_of_cell? w _ hx133_0)).trans hx133_0
                      replace p133 := eq_true p133
                      replace q133 := eq_true q133
                      go_wp2_with (first | ((with_reducible refine gate_callee (f := 10) rfl ?_); refine goesL_ (some 30) rfl rfl Tryz.func10 (by kernel_rfl) rfl #[.string (rdOf ByteArray.empty l0 x24_1)] rfl (by (try simp only [List.map_toArray, List.map_cons, List.map_nil]); first | done | rfl | (simp only [List.length_drop, List.length_take]; rfl)) ?_; (with_reducible refine (spec_pieces.calls k1 (rdOf ByteArray.empty l0 x24_1) t134 t135 _ A9.out).mono ?_); rintro e w22 ⟨v136, rfl, ho0, hb⟩; refine ⟨_, rfl, ?_⟩; have n0_ := Aside0.mk (Kd.R_lower ho0 (below_size (by repeat (first | (with_reducible first | exact HB.out | apply below_alloc | apply pw_below_drewN | apply below_drew1) | exact HB.out)))); have n1_ := Aside0.mk (below_step (by repeat (first | (with_reducible first | exact HB.out | apply below_alloc | apply pw_below_drewN | apply below_drew1) | exact HB.out)) hb); clear HB; have HO137 := n0_; have HB := n1_; clear n0_ n1_; (try clear hb); (try clear hb2); (try clear hk); (try clear hi); (try clear ho0)) | ((with_reducible refine gate_callee (f := 11) rfl ?_); refine goesL_ (some 40) rfl rfl Tryz.func11 (by kernel_rfl) rfl #[.string (rdOf ByteArray.empty l0 x24_1)] rfl (by (try simp only [List.map_toArray, List.map_cons, List.map_nil]); first | done | rfl | (simp only [List.length_drop, List.length_take]; rfl)) ?_; (with_reducible refine (spec_plainPath.calls k1 (rdOf ByteArray.empty l0 x24_1) t138 _ A13.out).mono ?_); rintro e w' ⟨rfl, ⟨nd, rfl⟩⟩; refine ⟨_, rfl, ?_⟩) | ((with_reducible refine gate_callee (f := 11) rfl ?_); refine goesL_ (some 42) rfl rfl Tryz.func11 (by kernel_rfl) rfl #[.string a1] rfl (by (try simp only [List.map_toArray, List.map_cons, List.map_nil]); first | done | rfl | (simp only [List.length_drop, List.length_take]; rfl)) ?_; (with_reducible refine (spec_plainPath.calls k1 a1 t139 _ A14.out).mono ?_); rintro e w' ⟨rfl, ⟨nd, rfl⟩⟩; refine ⟨_, rfl, ?_⟩) | ((with_reducible refine gate_callee (f := 11) rfl ?_); refine goesL_ (some 48) rfl rfl Tryz.func11 (by kernel_rfl) rfl #[.string (rdOf ByteArray.empty l0 x24_1)] rfl (by (try simp only [List.map_toArray, List.map_cons, List.map_nil]); first | done | rfl | (simp only [List.length_drop, List.length_take]; rfl)) ?_; (with_reducible refine (spec_plainPath.calls k1 (rdOf ByteArray.empty l0 x24_1) t140 _ A17.out).mono ?_); rintro e w' ⟨rfl, ⟨nd, rfl⟩⟩; refine ⟨_, rfl, ?_⟩) | ((with_reducible refine gate_callee (f := 12) rfl ?_); refine goesL_ (some 49) rfl rfl Tryz.func12 (by kernel_rfl) rfl #[.string t140] rfl (by (try simp only [List.map_toArray, List.map_cons, List.map_nil]); first | done | rfl | (simp only [List.length_drop, List.length_take]; rfl)) ?_; (with_reducible refine (spec_starless.calls k1 t140 t141 _ A18.out).mono ?_); rintro e w23 ⟨rfl, hb⟩; refine ⟨_, rfl, ?_⟩; have n0_ := Aside0.mk (Kd.R_below (by (with_reducible repeat (first | apply Kd.R_alloc | apply Kd.R_drewN | apply Kd.R_drew)); exact HO137.out) hb); have n1_ := Aside0.mk (below_step (by repeat (first | (with_reducible first | exact HB.out | apply below_alloc | apply pw_below_drewN | apply below_drew1) | exact HB.out)) hb); clear HO137; clear HB; have HO137 := n0_; have HB := n1_; clear n0_ n1_; (try clear hb); (try clear hb2); (try clear hk); (try clear hi)) | ((with_reducible refine gate_callee (f := 11) rfl ?_); refine goesL_ (some 51) rfl rfl Tryz.func11 (by kernel_rfl) rfl #[.string a1] rfl (by (try simp only [List.map_toArray, List.map_cons, List.map_nil]); first | done | rfl | (simp only [List.length_drop, List.length_take]; rfl)) ?_; (with_reducible refine (spec_plainPath.calls k1 a1 t142 _ A19.out).mono ?_); rintro e w' ⟨rfl, ⟨nd, rfl⟩⟩; refine ⟨_, rfl, ?_⟩) | ((with_reducible refine gate_callee (f := 12) rfl ?_); refine goesL_ (some 52) rfl rfl Tryz.func12 (by kernel_rfl) rfl #[.string t142] rfl (by (try simp only [List.map_toArray, List.map_cons, List.map_nil]); first | done | rfl | (simp only [List.length_drop, List.length_take]; rfl)) ?_; (with_reducible refine (spec_starless.calls k1 t142 t143 _ A20.out).mono ?_); rintro e w24 ⟨rfl, hb⟩; refine ⟨_, rfl, ?_⟩; have n0_ := Aside0.mk (Kd.R_below (by (with_reducible repeat (first | apply Kd.R_alloc | apply Kd.R_drewN | apply Kd.R_drew)); exact HO137.out) hb); have n1_ := Aside0.mk (below_step (by repeat (first | (with_reducible first | exact HB.out | apply below_alloc | apply pw_below_drewN | apply below_drew1) | exact HB.out)) hb); clear HO137; clear HB; have HO137 := n0_; have HB := n1_; clear n0_ n1_; (try clear hb); (try clear hb2); (try clear hk); (try clear hi)))
                      go_roundg k1
                      case measure => have := HK1.out; omega
                      case rel => exact ⟨(x9_1), (wrap64 (x10_1 + 2)), (wrap64 (x24_1 + 1)), (by first | rfl | (simp; done) | (simp [*]; done)), (by first | rfl | (simp; done) | (simp [*]; done)), (by first | rfl | (simp; done) | (simp [*]; done)), H', ⟨by have := HK1.out; omega⟩, ⟨by repeat (first | (with_reducible first | exact HB.out | apply below_alloc | apply pw_below_drewN | apply below_drew1) | exact HB.out)⟩⟩
                    · rw [if_neg c21] at H
                      have c21b0 : (t141.toList == t143.toList) = false := beq_eq_false_iff_ne.mpr c21
                      have c21b1 : (t141.toList != t143.toList) = true := bne_iff_ne.mpr c21
                      have H' := Aside0.mk H
                      clear H
                      have p133 : 0 ≤ (x24_1 : Int) := of_decide_eq_true (by first | (with_reducible assumption) | assumption)
                      have q133 : x24_1 < (l0.length : Int) := of_decide_eq_true (by first | (with_reducible assumption) | assumption)
                      obtain ⟨ad133, e133, hx133_0⟩ := Kd.at_string HR0.out x24_1 p133 q133
                      cases e133
                      replace hx133_0 := (HB.out.cell (World.block_lt_of_cell? w _ hx133_0)).trans hx133_0
                      replace p133 := eq_true p133
                      replace q133 := eq_true q133
                      go_wp2_with (first | ((with_reducible refine gate_callee (f := 10) rfl ?_); refine goesL_ (some 30) rfl rfl Tryz.func10 (by kernel_rfl) rfl #[.string (rdOf ByteArray.empty l0 x24_1)] rfl (by (try simp only [List.map_toArray, List.map_cons, List.map_nil]); first | done | rfl | (simp only [List.length_drop, List.length_take]; rfl)) ?_; (with_reducible refine (spec_pieces.calls k1 (rdOf ByteArray.empty l0 x24_1) t134 t135 _ A9.out).mono ?_); rintro e w25 ⟨v136, rfl, ho0, hb⟩; refine ⟨_, rfl, ?_⟩; have n0_ := Aside0.mk (Kd.R_lower ho0 (below_size (by repeat (first | (with_reducible first | exact HB.out | apply below_alloc | apply pw_below_drewN | apply below_drew1) | exact HB.out)))); have n1_ := Aside0.mk (below_step (by repeat (first | (with_reducible first | exact HB.out | apply below_alloc | apply pw_below_drewN | apply below_drew1) | exact HB.out)) hb); clear HB; have HO137 := n0_; have HB := n1_; clear n0_ n1_; (try clear hb); (try clear hb2); (try clear hk); (try clear hi); (try clear ho0)) | ((with_reducible refine gate_callee (f := 11) rfl ?_); refine goesL_ (some 40) rfl rfl Tryz.func11 (by kernel_rfl) rfl #[.string (rdOf ByteArray.empty l0 x24_1)] rfl (by (try simp only [List.map_toArray, List.map_cons, List.map_nil]); first | done | rfl | (simp only [List.length_drop, List.length_take]; rfl)) ?_; (with_reducible refine (spec_plainPath.calls k1 (rdOf ByteArray.empty l0 x24_1) t138 _ A13.out).mono ?_); rintro e w' ⟨rfl, ⟨nd, rfl⟩⟩; refine ⟨_, rfl, ?_⟩) | ((with_reducible refine gate_callee (f := 11) rfl ?_); refine goesL_ (some 42) rfl rfl Tryz.func11 (by kernel_rfl) rfl #[.string a1] rfl (by (try simp only [List.map_toArray, List.map_cons, List.map_nil]); first | done | rfl | (simp only [List.length_drop, List.length_take]; rfl)) ?_; (with_reducible refine (spec_plainPath.calls k1 a1 t139 _ A14.out).mono ?_); rintro e w' ⟨rfl, ⟨nd, rfl⟩⟩; refine ⟨_, rfl, ?_⟩) | ((with_reducible refine gate_callee (f := 11) rfl ?_); refine goesL_ (some 48) rfl rfl Tryz.func11 (by kernel_rfl) rfl #[.string (rdOf ByteArray.empty l0 x24_1)] rfl (by (try simp only [List.map_toArray, List.map_cons, List.map_nil]); first | done | rfl | (simp only [List.length_drop, List.length_take]; rfl)) ?_; (with_reducible refine (spec_plainPath.calls k1 (rdOf ByteArray.empty l0 x24_1) t140 _ A17.out).mono ?_); rintro e w' ⟨rfl, ⟨nd, rfl⟩⟩; refine ⟨_, rfl, ?_⟩) | ((with_reducible refine gate_callee (f := 12) rfl ?_); refine goesL_ (some 49) rfl rfl Tryz.func12 (by kernel_rfl) rfl #[.string t140] rfl (by (try simp only [List.map_toArray, List.map_cons, List.map_nil]); first | done | rfl | (simp only [List.length_drop, List.length_take]; rfl)) ?_; (with_reducible refine (spec_starless.calls k1 t140 t141 _ A18.out).mono ?_); rintro e w26 ⟨rfl, hb⟩; refine ⟨_, rfl, ?_⟩; have n0_ := Aside0.mk (Kd.R_below (by (with_reducible repeat (first | apply Kd.R_alloc | apply Kd.R_drewN | apply Kd.R_drew)); exact HO137.out) hb); have n1_ := Aside0.mk (below_step (by repeat (first | (with_reducible first | exact HB.out | apply below_alloc | apply pw_below_drewN | apply below_drew1) | exact HB.out)) hb); clear HO137; clear HB; have HO137 := n0_; have HB := n1_; clear n0_ n1_; (try clear hb); (try clear hb2); (try clear hk); (try clear hi)) | ((with_reducible refine gate_callee (f := 11) rfl ?_); refine goesL_ (some 51) rfl rfl Tryz.func11 (by kernel_rfl) rfl #[.string a1] rfl (by (try simp only [List.map_toArray, List.map_cons, List.map_nil]); first | done | rfl | (simp only [List.length_drop, List.length_take]; rfl)) ?_; (with_reducible refine (spec_plainPath.calls k1 a1 t142 _ A19.out).mono ?_); rintro e w' ⟨rfl, ⟨nd, rfl⟩⟩; refine ⟨_, rfl, ?_⟩) | ((with_reducible refine gate_callee (f := 12) rfl ?_); refine goesL_ (some 52) rfl rfl Tryz.func12 (by kernel_rfl) rfl #[.string t142] rfl (by (try simp only [List.map_toArray, List.map_cons, List.map_nil]); first | done | rfl | (simp only [List.length_drop, List.length_take]; rfl)) ?_; (with_reducible refine (spec_starless.calls k1 t142 t143 _ A20.out).mono ?_); rintro e w27 ⟨rfl, hb⟩; refine ⟨_, rfl, ?_⟩; have n0_ := Aside0.mk (Kd.R_below (by (with_reducible repeat (first | apply Kd.R_alloc | apply Kd.R_drewN | apply Kd.R_drew)); exact HO137.out) hb); have n1_ := Aside0.mk (below_step (by repeat (first | (with_reducible first | exact HB.out | apply below_alloc | apply pw_below_drewN | apply below_drew1) | exact HB.out)) hb); clear HO137; clear HB; have HO137 := n0_; have HB := n1_; clear n0_ n1_; (try clear hb); (try clear hb2); (try clear hk); (try clear hi)))
                      go_roundg k1
                      case measure => have := HK1.out; omega
                      case rel => exact ⟨(x9_1), (x10_1), (wrap64 (x24_1 + 1)), (by first | rfl | (simp; done) | (simp [*]; done)), (by first | rfl | (simp; done) | (simp [*]; done)), (by first | rfl | (simp; done) | (simp [*]; done)), H', ⟨by have := HK1.out; omega⟩, ⟨by repeat (first | (with_reducible first | exact HB.out | apply below_alloc | apply pw_below_drewN | apply below_drew1) | exact HB.out)⟩⟩
              · rw [if_neg c10] at H
                have c10b0 : (t135 == 1) = false := beq_eq_false_iff_ne.mpr c10
                have c10b1 : (t135 != 1) = true := bne_iff_ne.mpr c10
                simp only [Option.some.injEq, Prod.mk.injEq] at H
                obtain ⟨rfl, rfl, rfl⟩ := H
                have p133 : 0 ≤ (x24_1 : Int) := of_decide_eq_true (by first | (with_reducible assumption) | assumption)
                have q133 : x24_1 < (l0.length : Int) := of_decide_eq_true (by first | (with_reducible assumption) | assumption)
                obtain ⟨ad133, e133, hx133_0⟩ := Kd.at_string HR0.out x24_1 p133 q133
                cases e133
                replace hx133_0 := (HB.out.cell (World.block_lt_of_cell? w _ hx133_0)).trans hx133_0
                replace p133 := eq_true p133
                replace q133 := eq_true q133
                go_wp2_with (first | ((with_reducible refine gate_callee (f := 10) rfl ?_); refine goesL_ (some 30) rfl rfl Tryz.func10 (by kernel_rfl) rfl #[.string (rdOf ByteArray.empty l0 x24_1)] rfl (by (try simp only [List.map_toArray, List.map_cons, List.map_nil]); first | done | rfl | (simp only [List.length_drop, List.length_take]; rfl)) ?_; (with_reducible refine (spec_pieces.calls k1 (rdOf ByteArray.empty l0 x24_1) t134 t135 _ A9.out).mono ?_); rintro e w28 ⟨v136, rfl, ho0, hb⟩; refine ⟨_, rfl, ?_⟩; have n0_ := Aside0.mk (Kd.R_lower ho0 (below_size (by repeat (first | (with_reducible first | exact HB.out | apply below_alloc | apply pw_below_drewN | apply below_drew1) | exact HB.out)))); have n1_ := Aside0.mk (below_step (by repeat (first | (with_reducible first | exact HB.out | apply below_alloc | apply pw_below_drewN | apply below_drew1) | exact HB.out)) hb); clear HB; have HO137 := n0_; have HB := n1_; clear n0_ n1_; (try clear hb); (try clear hb2); (try clear hk); (try clear hi); (try clear ho0)))
                go_ret3
                exact ⟨by first | rfl | (simp [errW_none, errW_some] <;> rfl) | (simp [*, errW_none, errW_some] <;> rfl), by repeat (first | (with_reducible first | exact HB.out | apply below_alloc | apply pw_below_drewN | apply below_drew1) | exact HB.out)⟩
            · rw [if_neg c8] at H
              exact absurd H (by simp)
          · rw [if_neg c7] at H
            exact absurd H (by simp)
        · rw [if_neg c6] at H
          have c6b0 : decide (x24_1 < (l0.length : Int)) = false := decide_eq_false c6
          clear c6
          by_cases c29 : x10_1 > 1
          · rw [if_pos c29] at H
            have c29b0 : decide (1 < x10_1) = true := decide_eq_true c29
            clear c29
            simp only [Option.some.injEq, Prod.mk.injEq] at H
            obtain ⟨rfl, rfl, rfl⟩ := H
            go_wp2
            go_ret3
            exact ⟨by first | rfl | (simp [errW_none, errW_some] <;> rfl) | (simp [*, errW_none, errW_some] <;> rfl), by repeat (first | (with_reducible first | exact HB.out | apply below_alloc | apply pw_below_drewN | apply below_drew1) | exact HB.out)⟩
          · rw [if_neg c29] at H
            have c29b0 : decide (1 < x10_1) = false := decide_eq_false c29
            clear c29
            simp only [Option.some.injEq, Prod.mk.injEq] at H
            obtain ⟨rfl, rfl, rfl⟩ := H
            go_wp2
            go_ret3
            exact ⟨by first | rfl | (simp [errW_none, errW_some] <;> rfl) | (simp [*, errW_none, errW_some] <;> rfl), by repeat (first | (with_reducible first | exact HB.out | apply below_alloc | apply pw_below_drewN | apply below_drew1) | exact HB.out)⟩
  · rw [if_neg c4] at H
    have c4b0 : (t130 == 1) = false := beq_eq_false_iff_ne.mpr c4
    have c4b1 : (t130 != 1) = true := bne_iff_ne.mpr c4
    simp only [Option.some.injEq, Prod.mk.injEq] at H
    obtain ⟨rfl, rfl, rfl⟩ := H
    go_enter Tryz.func7, Tryz.ntmps7
    go_wp2_with (first | ((with_reducible refine gate_callee (f := 10) rfl ?_); refine goesL_ (some 17) rfl rfl Tryz.func10 (by kernel_rfl) rfl #[.string a1] rfl (by (try simp only [List.map_toArray, List.map_cons, List.map_nil]); first | done | rfl | (simp only [List.length_drop, List.length_take]; rfl)) ?_; (with_reducible refine (spec_pieces.calls k a1 t129 t130 _ A3.out).mono ?_); rintro e w30 ⟨v131, rfl, ho0, hb⟩; refine ⟨_, rfl, ?_⟩; have n0_ := Aside0.mk (Kd.R_lower ho0 (below_size (by repeat (first | (with_reducible first | exact HB.out | apply below_alloc | apply pw_below_drewN | apply below_drew1) | exact HB.out)))); have n1_ := Aside0.mk (below_step (by repeat (first | (with_reducible first | exact HB.out | apply below_alloc | apply pw_below_drewN | apply below_drew1) | exact HB.out)) hb); clear HB; have HO132 := n0_; have HB := n1_; clear n0_ n1_; (try clear hb); (try clear hb2); (try clear hk); (try clear hi); (try clear ho0)))
    go_ret3
    exact ⟨by first | rfl | (simp [errW_none, errW_some] <;> rfl) | (simp [*, errW_none, errW_some] <;> rfl), by repeat (first | (with_reducible first | exact HB.out | apply below_alloc | apply pw_below_drewN | apply below_drew1) | exact HB.out)⟩

-- NOT PRINTED: function 29 (openapi3_NewPathsWithCapacity)

-- NOT PRINTED: function 20 (openapi3_NewPaths)

-- NOT PRINTED: function 21 (openapi3_Paths_Set)

-- NOT PRINTED: function 13 (impl_paths)

-- NOT PRINTED: function 30 (openapi3_Paths_Len)

-- NOT PRINTED: function 22 (openapi3_Paths_Value)

-- NOT PRINTED: function 55 (bytealg_IndexByteString)

-- NOT PRINTED: function 40 (stringslite_IndexByte)

-- NOT PRINTED: function 31 (strings_IndexByte)

-- NOT PRINTED: function 56 (abi_NoEscape)

-- NOT PRINTED: function 41 (strings_Builder_copyCheck)

-- NOT PRINTED: function 57 (bytealg_MakeNoZero)

-- NOT PRINTED: function 42 (strings_Builder_grow)

-- NOT PRINTED: function 32 (strings_Builder_Grow)

-- NOT PRINTED: function 33 (strings_Builder_String)

end Go.Proofs.YtpdnjgbcnnjdiaaGreatDoor.PFnFind
