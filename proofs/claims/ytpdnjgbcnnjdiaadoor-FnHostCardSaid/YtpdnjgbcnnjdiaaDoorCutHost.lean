/- Functions of this program as print.sh printed them for the law FnHost, without those that fall: taken by wip/cutprint.py. -/
import Derived.Test.YtpdnjgbcnnjdiaaDoorPFnMatchx1
import Derived.Test.YtpdnjgbcnnjdiaaDoorPFnMatchx3
namespace Go.Proofs.YtpdnjgbcnnjdiaaDoor.PFnMatch
open Go.RowKit Go.Proofs.YtpdnjgbcnnjdiaaDoorW.PrintWords Go.Proofs.YtpdnjgbcnnjdiaaDoorW.PrintLast Go.Proofs.YtpdnjgbcnnjdiaaDoorW.PrintMore
attribute [local go_sem] max2_int min2_int max_two min_two max_three min_three max_four min_four   -- for this text's walks alone
set_option linter.unusedVariables false
set_option linter.unusedSimpArgs false

/-! ### spec_reversed: function 39 -/
def spec_reversed.l0 : Nat → List ByteArray → List ByteArray → Int → Option (List ByteArray)
  | 0, _, _, _ => none
  | k + 1, x0, x3, x4 => if x4 ≥ 0 then (if 0 ≤ x4 then (if x4 < (x0.length : Int) then (if x3.length < 8796093022208 then (spec_reversed.l0 k x0 (x3 ++ [rdOf ByteArray.empty x0 x4]) (wrap64 (x4 - 1))) else (none)) else (none)) else (none)) else (some x3)
def spec_reversed.f (k : Nat) (l0 : List ByteArray) : Option (List ByteArray) := spec_reversed.l0 k l0 ([] : List ByteArray) (wrap64 ((l0.length : Int) - 1))
theorem spec_reversed.mono_l : ∀ k, (∀ y0 y1 y2, LeO (spec_reversed.l0 k y0 y1 y2) (spec_reversed.l0 (k + 1) y0 y1 y2))
  | 0 => fun _ _ _ r h => by simp [spec_reversed.l0] at h
  | k + 1 => by
    have ih0 := spec_reversed.mono_l k
    · intro y0 y1 y2
      unfold spec_reversed.l0
      repeat' first
      | (with_reducible exact ih0 _ _ _)
      | (with_reducible exact LeO.refl _)
      | (with_reducible exact LeO.none _)
      | (with_reducible refine LeO.ite ?_ ?_)
      | (with_reducible refine LeO.bind ?_ (fun _ => ?_))
      | exact ih0 _ _ _
      | exact LeO.none _
      | refine LeO.ite ?_ ?_
      | refine LeO.bind ?_ (fun _ => ?_)
theorem spec_reversed.mono : ∀ a0 k, LeO (spec_reversed.f k a0) (spec_reversed.f (k + 1) a0) := by
  intro a0 k
  have ih0 := spec_reversed.mono_l k
  unfold spec_reversed.f
  repeat' first
      | (with_reducible exact ih0 _ _ _)
      | (with_reducible exact LeO.refl _)
      | (with_reducible exact LeO.none _)
      | (with_reducible refine LeO.ite ?_ ?_)
      | (with_reducible refine LeO.bind ?_ (fun _ => ?_))
      | exact ih0 _ _ _
      | exact LeO.none _
      | refine LeO.ite ?_ ?_
      | refine LeO.bind ?_ (fun _ => ?_)
set_option maxHeartbeats 8000000 in
set_option maxRecDepth 100000 in
theorem spec_reversed.calls (k : Nat) (A0 : Option Addr) (c0 : Nat) (l0 : List ByteArray) (r : List ByteArray) (w : World) (hr0 : Kd.C Kd.string w A0 l0.length l0) (hc0 : l0.length ≤ c0) (h : spec_reversed.f k l0 = some r) :
    Calls Tryd.prog 39 #[.slice A0 l0.length c0] w fun e w' => ∃ v0_ : Value, e = .returned (v0_) ∧ Kd.R Kd.string 9 w' w.heap.size (fun _ => True) v0_ r ∧ Below w.heap.size w w' := by
  have HR0 := Aside0.mk hr0
  have HC0 := Aside0.mk hc0
  clear hr0 hc0
  have HB := Aside0.mk (Below.refl w.heap.size w)
  have H : (spec_reversed.l0 k l0 ([] : List ByteArray) (wrap64 ((l0.length : Int) - 1))) = some r := h
  clear h
  have H' := Aside0.mk H
  clear H
  go_enter Tryd.func39, Tryd.ntmps39
  go_wp2
  go_loopg [3, 4] k (fun kq v3 v4 w' => ∃ (x3_1 : List ByteArray) (x4_1 : Int), v4 = .int .i64 x4_1 ∧ Aside0 (spec_reversed.l0 kq l0 x3_1 x4_1 = some r) ∧ Aside0 (kq ≤ k) ∧ Aside0 (Kd.R Kd.string 9 w' w.heap.size (fun _ => True) v3 x3_1) ∧ Aside0 (Below w.heap.size w w'))
  case atStart => exact ⟨(([] : List ByteArray)), (wrap64 ((l0.length : Int) - 1)), (by first | rfl | (simp; done) | (simp [*]; done)), H', ⟨Nat.le_refl _⟩, ⟨by first | exact Kd.R_nil _ _ _ _ _ | exact Kd.N_nil _ _ _ _ _ | exact Kd.V_nil _ _ _ _ _ | exact Kd.Q_nil _ _ _ _ _ | exact Kd.S_nil _ _ _ _ _⟩, ⟨by repeat (first | (with_reducible first | exact HB.out | apply below_alloc | apply pw_below_drewN | apply below_drew1) | exact HB.out)⟩⟩
  case round =>
    clear H'
    obtain ⟨x3_1, x4_1, rfl, HA, HK1, HO_3, HB⟩ := hrel
    cases gk with
    | zero => exact absurd HA.out (by simp [spec_reversed.l0])
    | succ k1 =>
      have H := HA.out
      clear HA
      simp only [spec_reversed.l0] at H
      by_cases c2 : x4_1 ≥ 0
      · rw [if_pos c2] at H
        have c2b0 : decide (0 ≤ x4_1) = true := decide_eq_true c2
        clear c2
        by_cases c3 : 0 ≤ x4_1
        · rw [if_pos c3] at H
          have c3b0 : decide (0 ≤ x4_1) = true := decide_eq_true c3
          clear c3
          by_cases c4 : x4_1 < (l0.length : Int)
          · rw [if_pos c4] at H
            have c4b0 : decide (x4_1 < (l0.length : Int)) = true := decide_eq_true c4
            clear c4
            by_cases c5 : x3_1.length < 8796093022208
            · rw [if_pos c5] at H
              have LMc5 := Aside0.mk c5
              clear c5
              obtain ⟨y128, hy128⟩ : ∃ y_ : List ByteArray, y_ = (x3_1 ++ [rdOf ByteArray.empty l0 x4_1]) := ⟨_, rfl⟩
              replace H : (spec_reversed.l0 k1 l0 y128 (wrap64 (x4_1 - 1))) = some r := by first | (rw [hy128]; with_reducible exact H) | (have H2_ := (Option.bind_some _ _).symm.trans H; rw [hy128]; with_reducible exact H2_) | (have H2_ := (Option.bind_some _ _).symm.trans H; with_reducible exact H2_) | with_reducible exact H | (rw [hy128]; exact H) | exact H
              have Ny128 := Aside0.mk hy128
              clear hy128
              have H' := Aside0.mk H
              clear H
              have p127 : 0 ≤ (x4_1 : Int) := of_decide_eq_true (by first | (with_reducible assumption) | assumption)
              have q127 : x4_1 < (l0.length : Int) := of_decide_eq_true (by first | (with_reducible assumption) | assumption)
              obtain ⟨ad127, e127, hx127_0⟩ := Kd.at_string HR0.out x4_1 p127 q127
              cases e127
              replace hx127_0 := (HB.out.cell (World.block_lt_of_cell? w _ hx127_0)).trans hx127_0
              replace p127 := eq_true p127
              replace q127 := eq_true q127
              go_wp2_with (first | ((with_reducible refine gate_builtin (b := .append) (xs := #[.tmp 12, .tmp 17]) rfl ?_); at_builtin; refine Kd.R_append Kd.string (w0 := w) w.heap.size rfl (.tmp 12) (.tmp 17) 22 9 (.string ⟨#[]⟩) 16 rfl Tryd.underlying22 info9 rfl (by decide) (by omega) u3 x3_1 (rdOf ByteArray.empty l0 x4_1) [.string (rdOf ByteArray.empty l0 x4_1)] (fun _ => True) (fun _ => False) rfl rfl ?aP (fun _ hk => hk.elim) ?aF ?aO ?aB ?aS ?aL ?_; (case aP => exact rfl); (case aB => exact (by repeat (first | (with_reducible first | exact HB.out | apply below_alloc | apply pw_below_drewN | apply below_drew1) | exact HB.out))); (case aF => exact (fun _ _ => trivial)); (case aO => exact (by (with_reducible repeat (first | apply Kd.R_alloc | apply Kd.R_drewN | apply Kd.R_drew)); exact HO_3.out)); (case aS => exact (below_size (by repeat (first | (with_reducible first | exact HB.out | apply below_alloc | apply pw_below_drewN | apply below_drew1) | exact HB.out)))); (case aL => have := LMc5.out; omega); intro v129 w6 ho hb hg hat; rw [← Ny128.out] at ho; have n0_ := Aside0.mk (hb); have n1_ := Aside0.mk (ho); clear HB; clear HO_3; have HB := n0_; have HO130 := n1_; clear n0_ n1_; clear ho hb hg hat))
              go_roundg k1
              case measure => have := HK1.out; omega
              case rel => exact ⟨(y128), (wrap64 (x4_1 - 1)), (by first | rfl | (simp; done) | (simp [*]; done)), H', ⟨by have := HK1.out; omega⟩, ⟨by (with_reducible repeat (first | apply Kd.R_alloc | apply Kd.R_drewN | apply Kd.R_drew)); exact HO130.out⟩, ⟨by repeat (first | (with_reducible first | exact HB.out | apply below_alloc | apply pw_below_drewN | apply below_drew1) | exact HB.out)⟩⟩
            · rw [if_neg c5] at H
              exact absurd H (by simp)
          · rw [if_neg c4] at H
            exact absurd H (by simp)
        · rw [if_neg c3] at H
          exact absurd H (by simp)
      · rw [if_neg c2] at H
        have c2b0 : decide (0 ≤ x4_1) = false := decide_eq_false c2
        clear c2
        obtain rfl := Option.some.inj H
        go_wp2
        go_ret
        exact ⟨_, by first | rfl | (simp [errW_none, errW_some] <;> rfl) | (simp [*, errW_none, errW_some] <;> rfl), by (with_reducible repeat (first | apply Kd.R_alloc | apply Kd.R_drewN | apply Kd.R_drew)); exact HO_3.out, by repeat (first | (with_reducible first | exact HB.out | apply below_alloc | apply pw_below_drewN | apply below_drew1) | exact HB.out)⟩

/-! ### spec_Host: function 20 -/
mutual
def spec_Host.l0 : Nat → ByteArray → Bool → Int → Int → Option (ByteArray × Int)
  | 0, _, _, _, _ => none
  | k + 1, x0, x1, x11, x12 => if x12 < x11 then (if 0 ≤ x12 then (if x12 < (x0.size : Int) then ((spec_word.f (bt x0 x12)).bind fun t131 => (if t131 = true then (spec_Host.l0 k x0 x1 x11 (wrap64 (x12 + 1))) else (if (bt x0 x12) = 46 then (spec_Host.l0 k x0 x1 x11 (wrap64 (x12 + 1))) else (if (bt x0 x12) = 45 then (spec_Host.l0 k x0 x1 x11 (wrap64 (x12 + 1))) else (some ((⟨#[]⟩ : ByteArray), 2)))))) else (none)) else (none)) else ((spec_parted.f k x0 46).bind fun t132 => (spec_Host.l1 k x1 ([] : List ByteArray) t132 (t132.length : Int) 0))
def spec_Host.l1 : Nat → Bool → List ByteArray → List ByteArray → Int → Int → Option (ByteArray × Int)
  | 0, _, _, _, _, _ => none
  | k + 1, x1, x7, x34, x35, x36 => if x36 < x35 then (if 0 ≤ x36 then (if x36 < (x34.length : Int) then (if x1 = true then ((spec_parted.f k (rdOf ByteArray.empty x34 x36) 45).bind fun t140 => ((spec_reversed.f k t140).bind fun t143 => ((spec_joinTexts.f k t143 (⟨#[47, 45, 47]⟩ : ByteArray)).bind fun t146 => (if x7.length < 8796093022208 then (spec_Host.l1 k x1 (x7 ++ [t146]) x34 x35 (wrap64 (x36 + 1))) else (none))))) else (if x7.length < 8796093022208 then (spec_Host.l1 k x1 (x7 ++ [rdOf ByteArray.empty x34 x36]) x34 x35 (wrap64 (x36 + 1))) else (none))) else (none)) else (none)) else ((spec_reversed.f k x7).bind fun t135 => ((spec_joinTexts.f k t135 (⟨#[47, 46, 47]⟩ : ByteArray)).bind fun t138 => (some (t138, 1))))
end
def spec_Host.f (k : Nat) (a0 : ByteArray) (a1 : Bool) : Option (ByteArray × Int) := spec_Host.l0 k a0 a1 (a0.size : Int) 0
theorem spec_Host.mono_l : ∀ k, (∀ y0 y1 y2 y3, LeO (spec_Host.l0 k y0 y1 y2 y3) (spec_Host.l0 (k + 1) y0 y1 y2 y3)) ∧ (∀ y0 y1 y2 y3 y4, LeO (spec_Host.l1 k y0 y1 y2 y3 y4) (spec_Host.l1 (k + 1) y0 y1 y2 y3 y4))
  | 0 => ⟨fun _ _ _ _ r h => by simp [spec_Host.l0] at h, fun _ _ _ _ _ r h => by simp [spec_Host.l1] at h⟩
  | k + 1 => by
    obtain ⟨ih0, ih1⟩ := spec_Host.mono_l k
    refine ⟨?_, ?_⟩
    · intro y0 y1 y2 y3
      unfold spec_Host.l0
      repeat' first
      | (with_reducible exact ih0 _ _ _ _)
      | (with_reducible exact ih1 _ _ _ _ _)
      | (with_reducible exact spec_joinTexts.mono _ _ _)
      | (with_reducible exact spec_parted.mono _ _ _)
      | (with_reducible exact spec_reversed.mono _ _)
      | (with_reducible exact LeO.refl _)
      | (with_reducible exact LeO.none _)
      | (with_reducible refine LeO.ite ?_ ?_)
      | (with_reducible refine LeO.bind ?_ (fun _ => ?_))
      | exact ih0 _ _ _ _
      | exact ih1 _ _ _ _ _
      | exact spec_joinTexts.mono _ _ _
      | exact spec_parted.mono _ _ _
      | exact spec_reversed.mono _ _
      | exact LeO.none _
      | refine LeO.ite ?_ ?_
      | refine LeO.bind ?_ (fun _ => ?_)
    · intro y0 y1 y2 y3 y4
      unfold spec_Host.l1
      repeat' first
      | (with_reducible exact ih0 _ _ _ _)
      | (with_reducible exact ih1 _ _ _ _ _)
      | (with_reducible exact spec_joinTexts.mono _ _ _)
      | (with_reducible exact spec_parted.mono _ _ _)
      | (with_reducible exact spec_reversed.mono _ _)
      | (with_reducible exact LeO.refl _)
      | (with_reducible exact LeO.none _)
      | (with_reducible refine LeO.ite ?_ ?_)
      | (with_reducible refine LeO.bind ?_ (fun _ => ?_))
      | exact ih0 _ _ _ _
      | exact ih1 _ _ _ _ _
      | exact spec_joinTexts.mono _ _ _
      | exact spec_parted.mono _ _ _
      | exact spec_reversed.mono _ _
      | exact LeO.none _
      | refine LeO.ite ?_ ?_
      | refine LeO.bind ?_ (fun _ => ?_)
theorem spec_Host.mono : ∀ a0 a1 k, LeO (spec_Host.f k a0 a1) (spec_Host.f (k + 1) a0 a1) := by
  intro a0 a1 k
  obtain ⟨ih0, ih1⟩ := spec_Host.mono_l k
  unfold spec_Host.f
  repeat' first
      | (with_reducible exact ih0 _ _ _ _)
      | (with_reducible exact ih1 _ _ _ _ _)
      | (with_reducible exact spec_joinTexts.mono _ _ _)
      | (with_reducible exact spec_parted.mono _ _ _)
      | (with_reducible exact spec_reversed.mono _ _)
      | (with_reducible exact LeO.refl _)
      | (with_reducible exact LeO.none _)
      | (with_reducible refine LeO.ite ?_ ?_)
      | (with_reducible refine LeO.bind ?_ (fun _ => ?_))
      | exact ih0 _ _ _ _
      | exact ih1 _ _ _ _ _
      | exact spec_joinTexts.mono _ _ _
      | exact spec_parted.mono _ _ _
      | exact spec_reversed.mono _ _
      | exact LeO.none _
      | refine LeO.ite ?_ ?_
      | refine LeO.bind ?_ (fun _ => ?_)
set_option maxHeartbeats 8000000 in
set_option maxRecDepth 100000 in
theorem spec_Host.calls (k : Nat) (a0 : ByteArray) (a1 : Bool) (r1 : ByteArray) (r2 : Int) (w : World) (h : spec_Host.f k a0 a1 = some (r1, r2)) :
    Calls Tryd.prog 20 #[.string a0, .bool a1] w fun e w' => e = .returned (.tuple #[.string r1, .int .i64 r2]) ∧ Below w.heap.size w w' := by
  have HB := Aside0.mk (Below.refl w.heap.size w)
  have H : (spec_Host.l0 k a0 a1 (a0.size : Int) 0) = some (r1, r2) := h
  clear h
  have H' := Aside0.mk H
  clear H
  go_enter Tryd.func20, Tryd.ntmps20
  go_wp2
  go_loopg [12] k (fun kq v12 w' => ∃ (x12_1 : Int), v12 = .int .i64 x12_1 ∧ Aside0 (spec_Host.l0 kq a0 a1 (a0.size : Int) x12_1 = some (r1, r2)) ∧ Aside0 (kq ≤ k) ∧ Aside0 (Below w.heap.size w w'))
  case atStart => exact ⟨(0), (by first | rfl | (simp; done) | (simp [*]; done)), H', ⟨Nat.le_refl _⟩, ⟨by repeat (first | (with_reducible first | exact HB.out | apply below_alloc | apply pw_below_drewN | apply below_drew1) | exact HB.out)⟩⟩
  case round =>
    clear H'
    try clear c2
    try clear p2
    obtain ⟨x12_1, rfl, HA, HK1, HB⟩ := hrel
    cases gk with
    | zero => exact absurd HA.out (by simp [spec_Host.l0])
    | succ k1 =>
      have H := HA.out
      clear HA
      simp only [spec_Host.l0] at H
      by_cases c3 : x12_1 < (a0.size : Int)
      · rw [if_pos c3] at H
        have c3b0 : decide (x12_1 < (a0.size : Int)) = true := decide_eq_true c3
        clear c3
        by_cases c4 : 0 ≤ x12_1
        · rw [if_pos c4] at H
          have c4b0 : decide (0 ≤ x12_1) = true := decide_eq_true c4
          clear c4
          by_cases c5 : x12_1 < (a0.size : Int)
          · rw [if_pos c5] at H
            have c5b0 : decide (x12_1 < (a0.size : Int)) = true := decide_eq_true c5
            clear c5
            replace H := Option.bind_eq_some_iff.mp H
            obtain ⟨t131, A70, H⟩ := H
            replace H : (if t131 = true then (spec_Host.l0 k1 a0 a1 (a0.size : Int) (wrap64 (x12_1 + 1))) else (if (bt a0 x12_1) = 46 then (spec_Host.l0 k1 a0 a1 (a0.size : Int) (wrap64 (x12_1 + 1))) else (if (bt a0 x12_1) = 45 then (spec_Host.l0 k1 a0 a1 (a0.size : Int) (wrap64 (x12_1 + 1))) else (some ((⟨#[]⟩ : ByteArray), 2))))) = some (r1, r2) := H
            have A7 := Aside0.mk A70
            clear A70
            by_cases c8 : t131 = true
            · subst c8
              have H1 : (spec_Host.l0 k1 a0 a1 (a0.size : Int) (wrap64 (x12_1 + 1))) = some (r1, r2) := by rw [if_pos rfl] at H; exact H
              clear H
              have H := H1
              clear H1
              have H' := Aside0.mk H
              clear H
              have p6 : 0 ≤ (x12_1 : Int) := of_decide_eq_true (by first | (with_reducible assumption) | assumption)
              have q6 : x12_1 < (a0.size : Int) := of_decide_eq_true (by first | (with_reducible assumption) | assumption)
              have hx6 := bt_at a0 x12_1
              replace p6 := eq_true p6
              replace q6 := eq_true q6
              go_wp2_with (first | ((with_reducible refine gate_callee (f := 36) rfl ?_); refine goesL_ (some 18) rfl rfl Tryd.func36 (by kernel_rfl) rfl #[.int .u8 (bt a0 x12_1)] rfl (by (try simp only [List.map_toArray, List.map_cons, List.map_nil]); first | done | rfl | (simp only [List.length_drop, List.length_take]; rfl)) ?_; (with_reducible refine (spec_word.calls (bt a0 x12_1) true _ A7.out).mono ?_); rintro e w' ⟨rfl, ⟨nd, rfl⟩⟩; refine ⟨_, rfl, ?_⟩))
              go_roundg k1
              case measure => have := HK1.out; omega
              case rel => exact ⟨(wrap64 (x12_1 + 1)), (by first | rfl | (simp; done) | (simp [*]; done)), H', ⟨by have := HK1.out; omega⟩, ⟨by repeat (first | (with_reducible first | exact HB.out | apply below_alloc | apply pw_below_drewN | apply below_drew1) | exact HB.out)⟩⟩
            · replace c8 := Bool.eq_false_iff.mpr c8
              subst c8
              have H1 : (if (bt a0 x12_1) = 46 then (spec_Host.l0 k1 a0 a1 (a0.size : Int) (wrap64 (x12_1 + 1))) else (if (bt a0 x12_1) = 45 then (spec_Host.l0 k1 a0 a1 (a0.size : Int) (wrap64 (x12_1 + 1))) else (some ((⟨#[]⟩ : ByteArray), 2)))) = some (r1, r2) := by rw [if_neg (show ¬ (false = true) by decide)] at H; exact H
              clear H
              have H := H1
              clear H1
              by_cases c10 : (bt a0 x12_1) = 46
              · rw [if_pos c10] at H
                have c10b0 : ((bt a0 x12_1) == 46) = true := beq_iff_eq.mpr c10
                have c10b1 : ((bt a0 x12_1) != 46) = false := bne_eq_false_iff_eq.mpr c10
                clear c10
                have H' := Aside0.mk H
                clear H
                have p6 : 0 ≤ (x12_1 : Int) := of_decide_eq_true (by first | (with_reducible assumption) | assumption)
                have q6 : x12_1 < (a0.size : Int) := of_decide_eq_true (by first | (with_reducible assumption) | assumption)
                have hx6 := bt_at a0 x12_1
                replace p6 := eq_true p6
                replace q6 := eq_true q6
                go_wp2_with (first | ((with_reducible refine gate_callee (f := 36) rfl ?_); refine goesL_ (some 18) rfl rfl Tryd.func36 (by kernel_rfl) rfl #[.int .u8 (bt a0 x12_1)] rfl (by (try simp only [List.map_toArray, List.map_cons, List.map_nil]); first | done | rfl | (simp only [List.length_drop, List.length_take]; rfl)) ?_; (with_reducible refine (spec_word.calls (bt a0 x12_1) false _ A7.out).mono ?_); rintro e w' ⟨rfl, ⟨nd, rfl⟩⟩; refine ⟨_, rfl, ?_⟩; have p9 : 0 ≤ (x12_1 : Int) := of_decide_eq_true (by first | (with_reducible assumption) | assumption); have q9 : x12_1 < (a0.size : Int) := of_decide_eq_true (by first | (with_reducible assumption) | assumption); have hx9 := bt_at a0 x12_1; replace p9 := eq_true p9; replace q9 := eq_true q9))
                go_roundg k1
                case measure => have := HK1.out; omega
                case rel => exact ⟨(wrap64 (x12_1 + 1)), (by first | rfl | (simp; done) | (simp [*]; done)), H', ⟨by have := HK1.out; omega⟩, ⟨by repeat (first | (with_reducible first | exact HB.out | apply below_alloc | apply pw_below_drewN | apply below_drew1) | exact HB.out)⟩⟩
              · rw [if_neg c10] at H
                have c10b0 : ((bt a0 x12_1) == 46) = false := beq_eq_false_iff_ne.mpr c10
                have c10b1 : ((bt a0 x12_1) != 46) = true := bne_iff_ne.mpr c10
                by_cases c12 : (bt a0 x12_1) = 45
                · rw [if_pos c12] at H
                  have c12b0 : ((bt a0 x12_1) == 45) = true := beq_iff_eq.mpr c12
                  have c12b1 : ((bt a0 x12_1) != 45) = false := bne_eq_false_iff_eq.mpr c12
                  clear c12
                  have H' := Aside0.mk H
                  clear H
                  have p6 : 0 ≤ (x12_1 : Int) := of_decide_eq_true (by first | (with_reducible assumption) | assumption)
                  have q6 : x12_1 < (a0.size : Int) := of_decide_eq_true (by first | (with_reducible assumption) | assumption)
                  have hx6 := bt_at a0 x12_1
                  replace p6 := eq_true p6
                  replace q6 := eq_true q6
                  go_wp2_with (first | ((with_reducible refine gate_callee (f := 36) rfl ?_); refine goesL_ (some 18) rfl rfl Tryd.func36 (by kernel_rfl) rfl #[.int .u8 (bt a0 x12_1)] rfl (by (try simp only [List.map_toArray, List.map_cons, List.map_nil]); first | done | rfl | (simp only [List.length_drop, List.length_take]; rfl)) ?_; (with_reducible refine (spec_word.calls (bt a0 x12_1) false _ A7.out).mono ?_); rintro e w' ⟨rfl, ⟨nd, rfl⟩⟩; refine ⟨_, rfl, ?_⟩; have p9 : 0 ≤ (x12_1 : Int) := of_decide_eq_true (by first | (with_reducible assumption) | assumption); have q9 : x12_1 < (a0.size : Int) := of_decide_eq_true (by first | (with_reducible assumption) | assumption); have hx9 := bt_at a0 x12_1; replace p9 := eq_true p9; replace q9 := eq_true q9; have p11 : 0 ≤ (x12_1 : Int) := of_decide_eq_true (by first | (with_reducible assumption) | assumption); have q11 : x12_1 < (a0.size : Int) := of_decide_eq_true (by first | (with_reducible assumption) | assumption); have hx11 := bt_at a0 x12_1; replace p11 := eq_true p11; replace q11 := eq_true q11))
                  go_roundg k1
                  case measure => have := HK1.out; omega
                  case rel => exact ⟨(wrap64 (x12_1 + 1)), (by first | rfl | (simp; done) | (simp [*]; done)), H', ⟨by have := HK1.out; omega⟩, ⟨by repeat (first | (with_reducible first | exact HB.out | apply below_alloc | apply pw_below_drewN | apply below_drew1) | exact HB.out)⟩⟩
                · rw [if_neg c12] at H
                  have c12b0 : ((bt a0 x12_1) == 45) = false := beq_eq_false_iff_ne.mpr c12
                  have c12b1 : ((bt a0 x12_1) != 45) = true := bne_iff_ne.mpr c12
                  simp only [Option.some.injEq, Prod.mk.injEq] at H
                  obtain ⟨rfl, rfl⟩ := H
                  have p6 : 0 ≤ (x12_1 : Int) := of_decide_eq_true (by first | (with_reducible assumption) | assumption)
                  have q6 : x12_1 < (a0.size : Int) := of_decide_eq_true (by first | (with_reducible assumption) | assumption)
                  have hx6 := bt_at a0 x12_1
                  replace p6 := eq_true p6
                  replace q6 := eq_true q6
                  go_wp2_with (first | ((with_reducible refine gate_callee (f := 36) rfl ?_); refine goesL_ (some 18) rfl rfl Tryd.func36 (by kernel_rfl) rfl #[.int .u8 (bt a0 x12_1)] rfl (by (try simp only [List.map_toArray, List.map_cons, List.map_nil]); first | done | rfl | (simp only [List.length_drop, List.length_take]; rfl)) ?_; (with_reducible refine (spec_word.calls (bt a0 x12_1) false _ A7.out).mono ?_); rintro e w' ⟨rfl, ⟨nd, rfl⟩⟩; refine ⟨_, rfl, ?_⟩; have p9 : 0 ≤ (x12_1 : Int) := of_decide_eq_true (by first | (with_reducible assumption) | assumption); have q9 : x12_1 < (a0.size : Int) := of_decide_eq_true (by first | (with_reducible assumption) | assumption); have hx9 := bt_at a0 x12_1; replace p9 := eq_true p9; replace q9 := eq_true q9; have p11 : 0 ≤ (x12_1 : Int) := of_decide_eq_true (by first | (with_reducible assumption) | assumption); have q11 : x12_1 < (a0.size : Int) := of_decide_eq_true (by first | (with_reducible assumption) | assumption); have hx11 := bt_at a0 x12_1; replace p11 := eq_true p11; replace q11 := eq_true q11))
                  go_ret2
                  exact ⟨by first | rfl | (simp [errW_none, errW_some] <;> rfl) | (simp [*, errW_none, errW_some] <;> rfl), by repeat (first | (with_reducible first | exact HB.out | apply below_alloc | apply pw_below_drewN | apply below_drew1) | exact HB.out)⟩
          · rw [if_neg c5] at H
            exact absurd H (by simp)
        · rw [if_neg c4] at H
          exact absurd H (by simp)
      · rw [if_neg c3] at H
        have c3b0 : decide (x12_1 < (a0.size : Int)) = false := decide_eq_false c3
        clear c3
        replace H := Option.bind_eq_some_iff.mp H
        obtain ⟨t132, A130, H⟩ := H
        replace H : (spec_Host.l1 k1 a1 ([] : List ByteArray) t132 (t132.length : Int) 0) = some (r1, r2) := H
        have A13 := Aside0.mk A130
        clear A130
        have H' := Aside0.mk H
        clear H
        go_wp2_with (first | ((with_reducible refine gate_callee (f := 37) rfl ?_); refine goesL_ (some 34) rfl rfl Tryd.func37 (by kernel_rfl) rfl #[.string a0, .int .u8 46] rfl (by (try simp only [List.map_toArray, List.map_cons, List.map_nil]); first | done | rfl | (simp only [List.length_drop, List.length_take]; rfl)) ?_; (with_reducible refine (spec_parted.calls k1 a0 46 t132 _ A13.out).mono ?_); rintro e w14 ⟨v133, rfl, ho0, hb⟩; refine ⟨_, rfl, ?_⟩; have n0_ := Aside0.mk (Kd.R_lower ho0 (below_size (by repeat (first | (with_reducible first | exact HB.out | apply below_alloc | apply pw_below_drewN | apply below_drew1) | exact HB.out)))); have n1_ := Aside0.mk (below_step (by repeat (first | (with_reducible first | exact HB.out | apply below_alloc | apply pw_below_drewN | apply below_drew1) | exact HB.out)) hb); clear HB; have HO134 := n0_; have HB := n1_; clear n0_ n1_; (try clear hb); (try clear hb2); (try clear hk); (try clear hi); (try clear ho0); obtain ⟨Ao15, co15, eo15⟩ := Kd.R_slice HO134.out; subst eo15))
        go_loopg [7, 36] k1 (fun kq v7 v36 w' => ∃ (x7_2 : List ByteArray) (x36_2 : Int), v36 = .int .i64 x36_2 ∧ Aside0 (spec_Host.l1 kq a1 x7_2 t132 (t132.length : Int) x36_2 = some (r1, r2)) ∧ Aside0 (kq ≤ k1) ∧ Aside0 (Kd.R Kd.string 9 w' w.heap.size (fun k_ => some k_ ≠ ((.slice Ao15 t132.length co15) : Value).ownBlock) v7 x7_2) ∧ Aside0 (Kd.R Kd.string 9 w' w.heap.size (fun k_ => some k_ ≠ (v7 : Value).ownBlock) (.slice Ao15 t132.length co15) t132) ∧ Aside0 (Below w.heap.size w w'))
        case atStart => exact ⟨(([] : List ByteArray)), (0), (by first | rfl | (simp; done) | (simp [*]; done)), H', ⟨Nat.le_refl _⟩, ⟨by first | exact Kd.R_nil _ _ _ _ _ | exact Kd.N_nil _ _ _ _ _ | exact Kd.V_nil _ _ _ _ _ | exact Kd.Q_nil _ _ _ _ _ | exact Kd.S_nil _ _ _ _ _⟩, ⟨by (with_reducible repeat (first | apply Kd.R_alloc | apply Kd.R_drewN | apply Kd.R_drew)); exact Kd.R_mono HO134.out (fun _ hk => (by simp [Value.ownBlock]))⟩, ⟨by repeat (first | (with_reducible first | exact HB.out | apply below_alloc | apply pw_below_drewN | apply below_drew1) | exact HB.out)⟩⟩
        case round =>
          clear H'
          try clear c1
          try clear p1
          try clear q1
          try clear hx1
          try clear c2
          try clear p2
          try clear c3
          try clear c3b0
          try clear c4
          try clear c4b0
          try clear c5
          try clear c5b0
          try clear p6
          try clear q6
          try clear hx6
          try clear c8
          try clear p9
          try clear q9
          try clear hx9
          try clear c10
          try clear c10b0
          try clear c10b1
          try clear p11
          try clear q11
          try clear hx11
          try clear c12
          try clear c12b0
          try clear c12b1
          try clear p11
          try clear p2
          try clear p6
          try clear p9
          try clear q11
          try clear q6
          try clear q9
          obtain ⟨x7_2, x36_2, rfl, HA, HK2, HO_7, HO_34, HB⟩ := hrel
          cases gk with
          | zero => exact absurd HA.out (by simp [spec_Host.l1])
          | succ k2 =>
            have H := HA.out
            clear HA
            simp only [spec_Host.l1] at H
            by_cases c16 : x36_2 < (t132.length : Int)
            · rw [if_pos c16] at H
              have c16b0 : decide (x36_2 < (t132.length : Int)) = true := decide_eq_true c16
              clear c16
              by_cases c17 : 0 ≤ x36_2
              · rw [if_pos c17] at H
                have c17b0 : decide (0 ≤ x36_2) = true := decide_eq_true c17
                clear c17
                by_cases c18 : x36_2 < (t132.length : Int)
                · rw [if_pos c18] at H
                  have c18b0 : decide (x36_2 < (t132.length : Int)) = true := decide_eq_true c18
                  clear c18
                  by_cases c19 : a1 = true
                  · subst c19
                    have H1 : ((spec_parted.f k2 (rdOf ByteArray.empty t132 x36_2) 45).bind fun t140 => ((spec_reversed.f k2 t140).bind fun t143 => ((spec_joinTexts.f k2 t143 (⟨#[47, 45, 47]⟩ : ByteArray)).bind fun t146 => (if x7_2.length < 8796093022208 then (spec_Host.l1 k2 true (x7_2 ++ [t146]) t132 (t132.length : Int) (wrap64 (x36_2 + 1))) else (none))))) = some (r1, r2) := by rw [if_pos rfl] at H; exact H
                    clear H
                    have H := H1
                    clear H1
                    replace H := Option.bind_eq_some_iff.mp H
                    obtain ⟨t140, A200, H⟩ := H
                    replace H : ((spec_reversed.f k2 t140).bind fun t143 => ((spec_joinTexts.f k2 t143 (⟨#[47, 45, 47]⟩ : ByteArray)).bind fun t146 => (if x7_2.length < 8796093022208 then (spec_Host.l1 k2 true (x7_2 ++ [t146]) t132 (t132.length : Int) (wrap64 (x36_2 + 1))) else (none)))) = some (r1, r2) := H
                    have A20 := Aside0.mk A200
                    clear A200
                    replace H := Option.bind_eq_some_iff.mp H
                    obtain ⟨t143, A210, H⟩ := H
                    replace H : ((spec_joinTexts.f k2 t143 (⟨#[47, 45, 47]⟩ : ByteArray)).bind fun t146 => (if x7_2.length < 8796093022208 then (spec_Host.l1 k2 true (x7_2 ++ [t146]) t132 (t132.length : Int) (wrap64 (x36_2 + 1))) else (none))) = some (r1, r2) := H
                    have A21 := Aside0.mk A210
                    clear A210
                    replace H := Option.bind_eq_some_iff.mp H
                    obtain ⟨t146, A220, H⟩ := H
                    replace H : (if x7_2.length < 8796093022208 then (spec_Host.l1 k2 true (x7_2 ++ [t146]) t132 (t132.length : Int) (wrap64 (x36_2 + 1))) else (none)) = some (r1, r2) := H
                    have A22 := Aside0.mk A220
                    clear A220
                    by_cases c23 : x7_2.length < 8796093022208
                    · rw [if_pos c23] at H
                      have LMc23 := Aside0.mk c23
                      clear c23
                      obtain ⟨y147, hy147⟩ : ∃ y_ : List ByteArray, y_ = (x7_2 ++ [t146]) := ⟨_, rfl⟩
                      replace H : (spec_Host.l1 k2 true y147 t132 (t132.length : Int) (wrap64 (x36_2 + 1))) = some (r1, r2) := by first | (rw [hy147]; with_reducible exact H) | (have H2_ := (Option.bind_some _ _).symm.trans H; rw [hy147]; with_reducible exact H2_) | (have H2_ := (Option.bind_some _ _).symm.trans H; with_reducible exact H2_) | with_reducible exact H | (rw [hy147]; exact H) | exact H
                      have Ny147 := Aside0.mk hy147
                      clear hy147
                      have H' := Aside0.mk H
                      clear H
                      have p139 : 0 ≤ (x36_2 : Int) := of_decide_eq_true (by first | (with_reducible assumption) | assumption)
                      have q139 : x36_2 < (t132.length : Int) := of_decide_eq_true (by first | (with_reducible assumption) | assumption)
                      obtain ⟨ad139, e139, hx139_0⟩ := Kd.at_string (Kd.R_reads' HO_34.out).2.2 x36_2 p139 q139
                      cases e139
                      replace p139 := eq_true p139
                      replace q139 := eq_true q139
                      go_wp2_with (first | ((with_reducible refine gate_callee (f := 37) rfl ?_); refine goesL_ (some 42) rfl rfl Tryd.func37 (by kernel_rfl) rfl #[.string (rdOf ByteArray.empty t132 x36_2), .int .u8 45] rfl (by (try simp only [List.map_toArray, List.map_cons, List.map_nil]); first | done | rfl | (simp only [List.length_drop, List.length_take]; rfl)) ?_; (with_reducible refine (spec_parted.calls k2 (rdOf ByteArray.empty t132 x36_2) 45 t140 _ A20.out).mono ?_); rintro e w24 ⟨v141, rfl, ho0, hb⟩; refine ⟨_, rfl, ?_⟩; have n0_ := Aside0.mk (Kd.R_elder' (by (with_reducible repeat (first | apply Kd.R_alloc | apply Kd.R_drewN | apply Kd.R_drew)); exact HO_7.out) (Kd.R_base ho0) hb); have n1_ := Aside0.mk (Kd.R_elder' (by (with_reducible repeat (first | apply Kd.R_alloc | apply Kd.R_drewN | apply Kd.R_drew)); exact HO_34.out) (Kd.R_base ho0) hb); have n2_ := Aside0.mk (Kd.R_lower (Kd.R_new' (Kd.R_new' ho0 (Kd.R_lt (by (with_reducible repeat (first | apply Kd.R_alloc | apply Kd.R_drewN | apply Kd.R_drew)); exact HO_7.out))) (Kd.R_lt (by (with_reducible repeat (first | apply Kd.R_alloc | apply Kd.R_drewN | apply Kd.R_drew)); exact HO_34.out))) (below_size (by repeat (first | (with_reducible first | exact HB.out | apply below_alloc | apply pw_below_drewN | apply below_drew1) | exact HB.out)))); have n3_ := Aside0.mk (below_step (by repeat (first | (with_reducible first | exact HB.out | apply below_alloc | apply pw_below_drewN | apply below_drew1) | exact HB.out)) hb); clear HO_7; clear HO_34; clear HB; have HO_7 := n0_; have HO_34 := n1_; have HO142 := n2_; have HB := n3_; clear n0_ n1_ n2_ n3_; (try clear hb); (try clear hb2); (try clear hk); (try clear hi); (try clear ho0); obtain ⟨Ao25, co25, eo25⟩ := Kd.R_slice HO142.out; subst eo25) | ((with_reducible refine gate_callee (f := 39) rfl ?_); refine goesL_ (some 43) rfl rfl Tryd.func39 (by kernel_rfl) rfl #[.slice Ao25 t140.length co25] rfl (by (try simp only [List.map_toArray, List.map_cons, List.map_nil]); first | done | rfl | (simp only [List.length_drop, List.length_take]; rfl)) ?_; (with_reducible refine (spec_reversed.calls k2 _ _ t140 t143 _ ?side1 ?side2 A21.out).mono ?_); (case side1 => repeat (first | exact (Kd.R_reads' HO142.out).2.2 | (with_reducible refine Kd.C_alloc ?_ _) | (with_reducible refine Kd.C_drewN ?_ _) | (with_reducible refine Kd.C_drew ?_))); (case side2 => exact (Kd.R_reads' HO142.out).2.1); rintro e w26 ⟨v144, rfl, ho0, hb⟩; refine ⟨_, rfl, ?_⟩; have n0_ := Aside0.mk (Kd.R_elder' (by (with_reducible repeat (first | apply Kd.R_alloc | apply Kd.R_drewN | apply Kd.R_drew)); exact HO_7.out) (Kd.R_base ho0) hb); have n1_ := Aside0.mk (Kd.R_elder' (by (with_reducible repeat (first | apply Kd.R_alloc | apply Kd.R_drewN | apply Kd.R_drew)); exact HO_34.out) (Kd.R_base ho0) hb); have n2_ := Aside0.mk (Kd.R_elder' (by (with_reducible repeat (first | apply Kd.R_alloc | apply Kd.R_drewN | apply Kd.R_drew)); exact HO142.out) (Kd.R_base ho0) hb); have n3_ := Aside0.mk (Kd.R_lower (Kd.R_new' (Kd.R_new' (Kd.R_new' ho0 (Kd.R_lt (by (with_reducible repeat (first | apply Kd.R_alloc | apply Kd.R_drewN | apply Kd.R_drew)); exact HO_7.out))) (Kd.R_lt (by (with_reducible repeat (first | apply Kd.R_alloc | apply Kd.R_drewN | apply Kd.R_drew)); exact HO_34.out))) (Kd.R_lt (by (with_reducible repeat (first | apply Kd.R_alloc | apply Kd.R_drewN | apply Kd.R_drew)); exact HO142.out))) (below_size (by repeat (first | (with_reducible first | exact HB.out | apply below_alloc | apply pw_below_drewN | apply below_drew1) | exact HB.out)))); have n4_ := Aside0.mk (below_step (by repeat (first | (with_reducible first | exact HB.out | apply below_alloc | apply pw_below_drewN | apply below_drew1) | exact HB.out)) hb); clear HO_7; clear HO_34; clear HO142; clear HB; have HO_7 := n0_; have HO_34 := n1_; have HO142 := n2_; have HO145 := n3_; have HB := n4_; clear n0_ n1_ n2_ n3_ n4_; (try clear hb); (try clear hb2); (try clear hk); (try clear hi); (try clear ho0); obtain ⟨Ao27, co27, eo27⟩ := Kd.R_slice HO145.out; subst eo27) | ((with_reducible refine gate_callee (f := 38) rfl ?_); refine goesL_ (some 44) rfl rfl Tryd.func38 (by kernel_rfl) rfl #[.slice Ao27 t143.length co27, .string (⟨#[47, 45, 47]⟩ : ByteArray)] rfl (by (try simp only [List.map_toArray, List.map_cons, List.map_nil]); first | done | rfl | (simp only [List.length_drop, List.length_take]; rfl)) ?_; (with_reducible refine (spec_joinTexts.calls k2 _ _ t143 (⟨#[47, 45, 47]⟩ : ByteArray) t146 _ ?side1 ?side2 A22.out).mono ?_); (case side1 => repeat (first | exact (Kd.R_reads' HO145.out).2.2 | (with_reducible refine Kd.C_alloc ?_ _) | (with_reducible refine Kd.C_drewN ?_ _) | (with_reducible refine Kd.C_drew ?_))); (case side2 => exact (Kd.R_reads' HO145.out).2.1); rintro e w' ⟨rfl, ⟨nd, rfl⟩⟩; refine ⟨_, rfl, ?_⟩) | ((with_reducible refine gate_builtin (b := .append) (xs := #[.tmp 45, .tmp 47]) rfl ?_); at_builtin; refine Kd.R_append Kd.string (w0 := w) w.heap.size rfl (.tmp 45) (.tmp 47) 22 9 (.string ⟨#[]⟩) 16 rfl Tryd.underlying22 info9 rfl (by decide) (by omega) u7 x7_2 t146 [.string t146] (fun k_ => some k_ ≠ (.slice (some ad139) t132.length co15 : Value).ownBlock ∧ some k_ ≠ (.slice Ao25 t140.length co25 : Value).ownBlock ∧ some k_ ≠ (.slice Ao27 t143.length co27 : Value).ownBlock) (fun _ => False) rfl rfl ?aP (fun _ hk => hk.elim) ?aF ?aO ?aB ?aS ?aL ?_; (case aP => exact rfl); (case aB => exact (by repeat (first | (with_reducible first | exact HB.out | apply below_alloc | apply pw_below_drewN | apply below_drew1) | exact HB.out))); (case aF => exact (fun k_ hk => ⟨Kd.fresh' (Kd.R_lt (by (with_reducible repeat (first | apply Kd.R_alloc | apply Kd.R_drewN | apply Kd.R_drew)); exact HO_34.out)) k_ hk, Kd.fresh' (Kd.R_lt (by (with_reducible repeat (first | apply Kd.R_alloc | apply Kd.R_drewN | apply Kd.R_drew)); exact HO142.out)) k_ hk, Kd.fresh' (Kd.R_lt (by (with_reducible repeat (first | apply Kd.R_alloc | apply Kd.R_drewN | apply Kd.R_drew)); exact HO145.out)) k_ hk⟩)); (case aO => exact (by (with_reducible repeat (first | apply Kd.R_alloc | apply Kd.R_drewN | apply Kd.R_drew)); exact Kd.R_mono HO_7.out (fun _ hk => ⟨hk.1.1, ⟨hk.1.2, hk.2⟩⟩))); (case aS => exact (below_size (by repeat (first | (with_reducible first | exact HB.out | apply below_alloc | apply pw_below_drewN | apply below_drew1) | exact HB.out)))); (case aL => have := LMc23.out; omega); intro v148 w28 ho hb hg hat; rw [← Ny147.out] at ho; have n0_ := Aside0.mk (Kd.R_after (ok := (fun k_ => some k_ ≠ (.slice Ao25 t140.length co25 : Value).ownBlock ∧ some k_ ≠ (.slice Ao27 t143.length co27 : Value).ownBlock)) (by (with_reducible repeat (first | apply Kd.R_alloc | apply Kd.R_drewN | apply Kd.R_drew)); exact Kd.R_mono HO_34.out (fun _ hk => ⟨⟨hk.1.2, hk.2⟩, hk.1.1⟩)) hg hat); have n1_ := Aside0.mk (Kd.R_after (ok := (fun k_ => some k_ ≠ (.slice (some ad139) t132.length co15 : Value).ownBlock ∧ some k_ ≠ (.slice Ao27 t143.length co27 : Value).ownBlock)) (by (with_reducible repeat (first | apply Kd.R_alloc | apply Kd.R_drewN | apply Kd.R_drew)); exact Kd.R_mono HO142.out (fun _ hk => ⟨⟨hk.1.2, hk.2⟩, hk.1.1.2⟩)) hg hat); have n2_ := Aside0.mk (Kd.R_after (ok := (fun k_ => some k_ ≠ (.slice (some ad139) t132.length co15 : Value).ownBlock ∧ some k_ ≠ (.slice Ao25 t140.length co25 : Value).ownBlock)) (by (with_reducible repeat (first | apply Kd.R_alloc | apply Kd.R_drewN | apply Kd.R_drew)); exact Kd.R_mono HO145.out (fun _ hk => ⟨⟨hk.1.2, hk.2⟩, hk.1.1.2⟩)) hg hat); have n3_ := Aside0.mk (hb); have n4_ := Aside0.mk (ho); clear HO_34; clear HO142; clear HO145; clear HB; clear HO_7; have HO_34 := n0_; have HO142 := n1_; have HO145 := n2_; have HB := n3_; have HO149 := n4_; clear n0_ n1_ n2_ n3_ n4_; clear ho hb hg hat))
                      go_roundg k2
                      case measure => have := HK1.out; have := HK2.out; omega
                      case rel => exact ⟨(y147), (wrap64 (x36_2 + 1)), (by first | rfl | (simp; done) | (simp [*]; done)), H', ⟨by have := HK1.out; have := HK2.out; omega⟩, ⟨by (with_reducible repeat (first | apply Kd.R_alloc | apply Kd.R_drewN | apply Kd.R_drew)); exact Kd.R_mono HO149.out (fun _ hk => hk.1)⟩, ⟨by (with_reducible repeat (first | apply Kd.R_alloc | apply Kd.R_drewN | apply Kd.R_drew)); exact Kd.R_mono HO_34.out (fun _ hk => hk.2)⟩, ⟨by repeat (first | (with_reducible first | exact HB.out | apply below_alloc | apply pw_below_drewN | apply below_drew1) | exact HB.out)⟩⟩
                    · rw [if_neg c23] at H
                      exact absurd H (by simp)
                  · replace c19 := Bool.eq_false_iff.mpr c19
                    subst c19
                    have H1 : (if x7_2.length < 8796093022208 then (spec_Host.l1 k2 false (x7_2 ++ [rdOf ByteArray.empty t132 x36_2]) t132 (t132.length : Int) (wrap64 (x36_2 + 1))) else (none)) = some (r1, r2) := by rw [if_neg (show ¬ (false = true) by decide)] at H; exact H
                    clear H
                    have H := H1
                    clear H1
                    by_cases c29 : x7_2.length < 8796093022208
                    · rw [if_pos c29] at H
                      have LMc29 := Aside0.mk c29
                      clear c29
                      obtain ⟨y150, hy150⟩ : ∃ y_ : List ByteArray, y_ = (x7_2 ++ [rdOf ByteArray.empty t132 x36_2]) := ⟨_, rfl⟩
                      replace H : (spec_Host.l1 k2 false y150 t132 (t132.length : Int) (wrap64 (x36_2 + 1))) = some (r1, r2) := by first | (rw [hy150]; with_reducible exact H) | (have H2_ := (Option.bind_some _ _).symm.trans H; rw [hy150]; with_reducible exact H2_) | (have H2_ := (Option.bind_some _ _).symm.trans H; with_reducible exact H2_) | with_reducible exact H | (rw [hy150]; exact H) | exact H
                      have Ny150 := Aside0.mk hy150
                      clear hy150
                      have H' := Aside0.mk H
                      clear H
                      have p139 : 0 ≤ (x36_2 : Int) := of_decide_eq_true (by first | (with_reducible assumption) | assumption)
                      have q139 : x36_2 < (t132.length : Int) := of_decide_eq_true (by first | (with_reducible assumption) | assumption)
                      obtain ⟨ad139, e139, hx139_0⟩ := Kd.at_string (Kd.R_reads' HO_34.out).2.2 x36_2 p139 q139
                      cases e139
                      replace p139 := eq_true p139
                      replace q139 := eq_true q139
                      go_wp2_with (first | ((with_reducible refine gate_builtin (b := .append) (xs := #[.tmp 45, .tmp 47]) rfl ?_); at_builtin; refine Kd.R_append Kd.string (w0 := w) w.heap.size rfl (.tmp 45) (.tmp 47) 22 9 (.string ⟨#[]⟩) 16 rfl Tryd.underlying22 info9 rfl (by decide) (by omega) u7 x7_2 (rdOf ByteArray.empty t132 x36_2) [.string (rdOf ByteArray.empty t132 x36_2)] (fun k_ => some k_ ≠ (.slice (some ad139) t132.length co15 : Value).ownBlock) (fun _ => False) rfl rfl ?aP (fun _ hk => hk.elim) ?aF ?aO ?aB ?aS ?aL ?_; (case aP => exact rfl); (case aB => exact (by repeat (first | (with_reducible first | exact HB.out | apply below_alloc | apply pw_below_drewN | apply below_drew1) | exact HB.out))); (case aF => exact (fun k_ hk => Kd.fresh' (Kd.R_lt (by (with_reducible repeat (first | apply Kd.R_alloc | apply Kd.R_drewN | apply Kd.R_drew)); exact HO_34.out)) k_ hk)); (case aO => exact (by (with_reducible repeat (first | apply Kd.R_alloc | apply Kd.R_drewN | apply Kd.R_drew)); exact HO_7.out)); (case aS => exact (below_size (by repeat (first | (with_reducible first | exact HB.out | apply below_alloc | apply pw_below_drewN | apply below_drew1) | exact HB.out)))); (case aL => have := LMc29.out; omega); intro v151 w30 ho hb hg hat; rw [← Ny150.out] at ho; have n0_ := Aside0.mk (Kd.R_after (ok := (fun _ => True)) (by (with_reducible repeat (first | apply Kd.R_alloc | apply Kd.R_drewN | apply Kd.R_drew)); exact Kd.R_mono HO_34.out (fun _ hk => ⟨trivial, hk⟩)) hg hat); have n1_ := Aside0.mk (hb); have n2_ := Aside0.mk (ho); clear HO_34; clear HB; clear HO_7; have HO_34 := n0_; have HB := n1_; have HO152 := n2_; clear n0_ n1_ n2_; clear ho hb hg hat))
                      go_roundg k2
                      case measure => have := HK1.out; have := HK2.out; omega
                      case rel => exact ⟨(y150), (wrap64 (x36_2 + 1)), (by first | rfl | (simp; done) | (simp [*]; done)), H', ⟨by have := HK1.out; have := HK2.out; omega⟩, ⟨by (with_reducible repeat (first | apply Kd.R_alloc | apply Kd.R_drewN | apply Kd.R_drew)); exact HO152.out⟩, ⟨by (with_reducible repeat (first | apply Kd.R_alloc | apply Kd.R_drewN | apply Kd.R_drew)); exact Kd.R_mono HO_34.out (fun _ hk => hk.2)⟩, ⟨by repeat (first | (with_reducible first | exact HB.out | apply below_alloc | apply pw_below_drewN | apply below_drew1) | exact HB.out)⟩⟩
                    · rw [if_neg c29] at H
                      exact absurd H (by simp)
                · rw [if_neg c18] at H
                  exact absurd H (by simp)
              · rw [if_neg c17] at H
                exact absurd H (by simp)
            · rw [if_neg c16] at H
              have c16b0 : decide (x36_2 < (t132.length : Int)) = false := decide_eq_false c16
              clear c16
              replace H := Option.bind_eq_some_iff.mp H
              obtain ⟨t135, A310, H⟩ := H
              replace H : ((spec_joinTexts.f k2 t135 (⟨#[47, 46, 47]⟩ : ByteArray)).bind fun t138 => (some (t138, 1))) = some (r1, r2) := H
              have A31 := Aside0.mk A310
              clear A310
              replace H := Option.bind_eq_some_iff.mp H
              obtain ⟨t138, A320, H⟩ := H
              replace H : (some (t138, 1)) = some (r1, r2) := H
              have A32 := Aside0.mk A320
              clear A320
              simp only [Option.some.injEq, Prod.mk.injEq] at H
              obtain ⟨rfl, rfl⟩ := H
              obtain ⟨Ao33, co33, eo33⟩ := Kd.R_slice HO_7.out
              subst eo33
              go_wp2_with (first | ((with_reducible refine gate_callee (f := 39) rfl ?_); refine goesL_ (some 51) rfl rfl Tryd.func39 (by kernel_rfl) rfl #[.slice Ao33 x7_2.length co33] rfl (by (try simp only [List.map_toArray, List.map_cons, List.map_nil]); first | done | rfl | (simp only [List.length_drop, List.length_take]; rfl)) ?_; (with_reducible refine (spec_reversed.calls k2 _ _ x7_2 t135 _ ?side1 ?side2 A31.out).mono ?_); (case side1 => repeat (first | exact (Kd.R_reads' HO_7.out).2.2 | (with_reducible refine Kd.C_alloc ?_ _) | (with_reducible refine Kd.C_drewN ?_ _) | (with_reducible refine Kd.C_drew ?_))); (case side2 => exact (Kd.R_reads' HO_7.out).2.1); rintro e w34 ⟨v136, rfl, ho0, hb⟩; refine ⟨_, rfl, ?_⟩; have n0_ := Aside0.mk (Kd.R_elder' (by (with_reducible repeat (first | apply Kd.R_alloc | apply Kd.R_drewN | apply Kd.R_drew)); exact HO_7.out) (Kd.R_base ho0) hb); have n1_ := Aside0.mk (Kd.R_elder' (by (with_reducible repeat (first | apply Kd.R_alloc | apply Kd.R_drewN | apply Kd.R_drew)); exact HO_34.out) (Kd.R_base ho0) hb); have n2_ := Aside0.mk (Kd.R_lower (Kd.R_new' (Kd.R_new' ho0 (Kd.R_lt (by (with_reducible repeat (first | apply Kd.R_alloc | apply Kd.R_drewN | apply Kd.R_drew)); exact HO_7.out))) (Kd.R_lt (by (with_reducible repeat (first | apply Kd.R_alloc | apply Kd.R_drewN | apply Kd.R_drew)); exact HO_34.out))) (below_size (by repeat (first | (with_reducible first | exact HB.out | apply below_alloc | apply pw_below_drewN | apply below_drew1) | exact HB.out)))); have n3_ := Aside0.mk (below_step (by repeat (first | (with_reducible first | exact HB.out | apply below_alloc | apply pw_below_drewN | apply below_drew1) | exact HB.out)) hb); clear HO_7; clear HO_34; clear HB; have HO_7 := n0_; have HO_34 := n1_; have HO137 := n2_; have HB := n3_; clear n0_ n1_ n2_ n3_; (try clear hb); (try clear hb2); (try clear hk); (try clear hi); (try clear ho0); obtain ⟨Ao35, co35, eo35⟩ := Kd.R_slice HO137.out; subst eo35) | ((with_reducible refine gate_callee (f := 38) rfl ?_); refine goesL_ (some 52) rfl rfl Tryd.func38 (by kernel_rfl) rfl #[.slice Ao35 t135.length co35, .string (⟨#[47, 46, 47]⟩ : ByteArray)] rfl (by (try simp only [List.map_toArray, List.map_cons, List.map_nil]); first | done | rfl | (simp only [List.length_drop, List.length_take]; rfl)) ?_; (with_reducible refine (spec_joinTexts.calls k2 _ _ t135 (⟨#[47, 46, 47]⟩ : ByteArray) t138 _ ?side1 ?side2 A32.out).mono ?_); (case side1 => repeat (first | exact (Kd.R_reads' HO137.out).2.2 | (with_reducible refine Kd.C_alloc ?_ _) | (with_reducible refine Kd.C_drewN ?_ _) | (with_reducible refine Kd.C_drew ?_))); (case side2 => exact (Kd.R_reads' HO137.out).2.1); rintro e w' ⟨rfl, ⟨nd, rfl⟩⟩; refine ⟨_, rfl, ?_⟩))
              go_ret2
              exact ⟨by first | rfl | (simp [errW_none, errW_some] <;> rfl) | (simp [*, errW_none, errW_some] <;> rfl), by repeat (first | (with_reducible first | exact HB.out | apply below_alloc | apply pw_below_drewN | apply below_drew1) | exact HB.out)⟩

end Go.Proofs.YtpdnjgbcnnjdiaaDoor.PFnMatch
