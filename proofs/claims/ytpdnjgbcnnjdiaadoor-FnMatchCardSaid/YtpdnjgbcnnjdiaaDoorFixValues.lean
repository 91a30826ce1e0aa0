/- spec.values: as print.sh printed it, turned by wip/fixprint.py where it fell. -/
import Derived.Test.YtpdnjgbcnnjdiaaDoorPFnMatchx0
import Derived.Test.YtpdnjgbcnnjdiaaDoorPFnMatchx3
import Derived.Test.YtpdnjgbcnnjdiaaDoorPFnMatchx4
namespace Go.Proofs.YtpdnjgbcnnjdiaaDoor.PFnMatch
open Go.RowKit Go.Proofs.YtpdnjgbcnnjdiaaDoorW.PrintWords Go.Proofs.YtpdnjgbcnnjdiaaDoorW.PrintLast Go.Proofs.YtpdnjgbcnnjdiaaDoorW.PrintMore
attribute [local go_sem] max2_int min2_int max_two min_two max_three min_three max_four min_four   -- for this text's walks alone
set_option linter.unusedVariables false
set_option linter.unusedSimpArgs false

/-! ### spec_values: function 29 -/
mutual
def spec_values.l0 : Nat → List ByteArray → List ByteArray → List ByteArray → List ByteArray → Int → Int → Option (List ByteArray × Bool × Int)
  | 0, _, _, _, _, _, _ => none
  | k + 1, x7, x8, x9, x21, x22, x23 => if x23 < x22 then (if 0 ≤ x23 then (if x23 < (x21.length : Int) then ((spec_kindOfPart.f k (rdOf ByteArray.empty x21 x23)).bind fun t134 => (if t134 = 2 then (if 0 ≤ (mn x23 (x8.length : Int)) then (if (mn x23 (x8.length : Int)) ≤ (x8.length : Int) then ((spec_joinTexts.f k (x8.drop ((mn x23 (x8.length : Int)) : Int).toNat) (⟨#[47]⟩ : ByteArray)).bind fun t139 => (if x9.length < 8796093022208 then (some ((x9 ++ [t139]), decide (x23 ≤ (x8.length : Int)), 1)) else (none))) else (none)) else (none)) else (if x23 ≥ (x8.length : Int) then (if t134 = 1 then (if x23 ≤ (x7.length : Int) then ((some (x7.drop (x23 : Int).toNat : List ByteArray)).bind fun y143 => (spec_values.l1 k x9 y143 (y143.length : Int) 0)) else (none)) else (some (([] : List ByteArray), false, 1))) else (if t134 = 0 then (if x23 < (x8.length : Int) then (spec_values.j2 k x7 x8 x9 x23 t134 x21 x22 x23 ((rdOf ByteArray.empty x21 x23).toList != (rdOf ByteArray.empty x8 x23).toList)) else (none)) else (spec_values.j2 k x7 x8 x9 x23 t134 x21 x22 x23 false))))) else (none)) else (none)) else (some (x9, ((x8.length : Int) == (x7.length : Int)), 1))
def spec_values.l1 : Nat → List ByteArray → List ByteArray → Int → Int → Option (List ByteArray × Bool × Int)
  | 0, _, _, _, _ => none
  | k + 1, x9, x56, x57, x58 => if x58 < x57 then (if 0 ≤ x58 then (if x58 < (x56.length : Int) then ((spec_kindOfPart.f k (rdOf ByteArray.empty x56 x58)).bind fun t148 => (if t148 = 1 then (if x9.length < 8796093022208 then (spec_values.l1 k (x9 ++ [(⟨#[]⟩ : ByteArray)]) x56 x57 (wrap64 (x58 + 1))) else (none)) else (some (([] : List ByteArray), false, 2)))) else (none)) else (none)) else (some (x9, true, 1))
def spec_values.j2 : Nat → List ByteArray → List ByteArray → List ByteArray → Int → Int → List ByteArray → Int → Int → Bool → Option (List ByteArray × Bool × Int)
  | 0, _, _, _, _, _, _, _, _, _ => none
  | k + 1, x7, x8, x9, x10, x12, x21, x22, x23, x70 => if x70 = true then (some (([] : List ByteArray), false, 1)) else (if x12 = 1 then (if 0 ≤ x10 then (if x10 < (x8.length : Int) then (spec_values.j3 k x7 x8 x9 x10 x12 x21 x22 x23 ((rdOf ByteArray.empty x8 x10).toList == ([] : List UInt8))) else (none)) else (none)) else (spec_values.j3 k x7 x8 x9 x10 x12 x21 x22 x23 false))
def spec_values.j3 : Nat → List ByteArray → List ByteArray → List ByteArray → Int → Int → List ByteArray → Int → Int → Bool → Option (List ByteArray × Bool × Int)
  | 0, _, _, _, _, _, _, _, _, _ => none
  | k + 1, x7, x8, x9, x10, x12, x21, x22, x23, x81 => if x81 = true then (some (([] : List ByteArray), false, 2)) else (if x12 = 1 then (if 0 ≤ x10 then (if x10 < (x8.length : Int) then (if x9.length < 8796093022208 then (spec_values.l0 k x7 x8 (x9 ++ [rdOf ByteArray.empty x8 x10]) x21 x22 (wrap64 (x23 + 1))) else (none)) else (none)) else (none)) else (spec_values.l0 k x7 x8 x9 x21 x22 (wrap64 (x23 + 1))))
end
def spec_values.f (k : Nat) (a0 : ByteArray) (a1 : ByteArray) : Option (List ByteArray × Bool × Int) := (spec_stripped.f a0).bind fun t125 => ((spec_parted.f k t125 47).bind fun t126 => ((spec_stripped.f a1).bind fun t129 => ((spec_parted.f k t129 47).bind fun t130 => (spec_values.l0 k t126 t130 ([] : List ByteArray) t126 (t126.length : Int) 0))))
theorem spec_values.mono_l : ∀ k, (∀ y0 y1 y2 y3 y4 y5, LeO (spec_values.l0 k y0 y1 y2 y3 y4 y5) (spec_values.l0 (k + 1) y0 y1 y2 y3 y4 y5)) ∧ (∀ y0 y1 y2 y3, LeO (spec_values.l1 k y0 y1 y2 y3) (spec_values.l1 (k + 1) y0 y1 y2 y3)) ∧ (∀ y0 y1 y2 y3 y4 y5 y6 y7 y8, LeO (spec_values.j2 k y0 y1 y2 y3 y4 y5 y6 y7 y8) (spec_values.j2 (k + 1) y0 y1 y2 y3 y4 y5 y6 y7 y8)) ∧ (∀ y0 y1 y2 y3 y4 y5 y6 y7 y8, LeO (spec_values.j3 k y0 y1 y2 y3 y4 y5 y6 y7 y8) (spec_values.j3 (k + 1) y0 y1 y2 y3 y4 y5 y6 y7 y8))
  | 0 => ⟨fun _ _ _ _ _ _ r h => by simp [spec_values.l0] at h, fun _ _ _ _ r h => by simp [spec_values.l1] at h, fun _ _ _ _ _ _ _ _ _ r h => by simp [spec_values.j2] at h, fun _ _ _ _ _ _ _ _ _ r h => by simp [spec_values.j3] at h⟩
  | k + 1 => by
    obtain ⟨ih0, ih1, ih2, ih3⟩ := spec_values.mono_l k
    refine ⟨?_, ?_, ?_, ?_⟩
    · intro y0 y1 y2 y3 y4 y5
      unfold spec_values.l0
      repeat' first
      | (with_reducible exact ih0 _ _ _ _ _ _)
      | (with_reducible exact ih1 _ _ _ _)
      | (with_reducible exact ih2 _ _ _ _ _ _ _ _ _)
      | (with_reducible exact ih3 _ _ _ _ _ _ _ _ _)
      | (with_reducible exact spec_joinTexts.mono _ _ _)
      | (with_reducible exact spec_kindOfPart.mono _ _)
      | (with_reducible exact spec_parted.mono _ _ _)
      | (with_reducible exact LeO.refl _)
      | (with_reducible exact LeO.none _)
      | (with_reducible refine LeO.ite ?_ ?_)
      | (with_reducible refine LeO.bind ?_ (fun _ => ?_))
      | exact ih0 _ _ _ _ _ _
      | exact ih1 _ _ _ _
      | exact ih2 _ _ _ _ _ _ _ _ _
      | exact ih3 _ _ _ _ _ _ _ _ _
      | exact spec_joinTexts.mono _ _ _
      | exact spec_kindOfPart.mono _ _
      | exact spec_parted.mono _ _ _
      | exact LeO.none _
      | refine LeO.ite ?_ ?_
      | refine LeO.bind ?_ (fun _ => ?_)
    · intro y0 y1 y2 y3
      unfold spec_values.l1
      repeat' first
      | (with_reducible exact ih0 _ _ _ _ _ _)
      | (with_reducible exact ih1 _ _ _ _)
      | (with_reducible exact ih2 _ _ _ _ _ _ _ _ _)
      | (with_reducible exact ih3 _ _ _ _ _ _ _ _ _)
      | (with_reducible exact spec_joinTexts.mono _ _ _)
      | (with_reducible exact spec_kindOfPart.mono _ _)
      | (with_reducible exact spec_parted.mono _ _ _)
      | (with_reducible exact LeO.refl _)
      | (with_reducible exact LeO.none _)
      | (with_reducible refine LeO.ite ?_ ?_)
      | (with_reducible refine LeO.bind ?_ (fun _ => ?_))
      | exact ih0 _ _ _ _ _ _
      | exact ih1 _ _ _ _
      | exact ih2 _ _ _ _ _ _ _ _ _
      | exact ih3 _ _ _ _ _ _ _ _ _
      | exact spec_joinTexts.mono _ _ _
      | exact spec_kindOfPart.mono _ _
      | exact spec_parted.mono _ _ _
      | exact LeO.none _
      | refine LeO.ite ?_ ?_
      | refine LeO.bind ?_ (fun _ => ?_)
    · intro y0 y1 y2 y3 y4 y5 y6 y7 y8
      unfold spec_values.j2
      repeat' first
      | (with_reducible exact ih0 _ _ _ _ _ _)
      | (with_reducible exact ih1 _ _ _ _)
      | (with_reducible exact ih2 _ _ _ _ _ _ _ _ _)
      | (with_reducible exact ih3 _ _ _ _ _ _ _ _ _)
      | (with_reducible exact spec_joinTexts.mono _ _ _)
      | (with_reducible exact spec_kindOfPart.mono _ _)
      | (with_reducible exact spec_parted.mono _ _ _)
      | (with_reducible exact LeO.refl _)
      | (with_reducible exact LeO.none _)
      | (with_reducible refine LeO.ite ?_ ?_)
      | (with_reducible refine LeO.bind ?_ (fun _ => ?_))
      | exact ih0 _ _ _ _ _ _
      | exact ih1 _ _ _ _
      | exact ih2 _ _ _ _ _ _ _ _ _
      | exact ih3 _ _ _ _ _ _ _ _ _
      | exact spec_joinTexts.mono _ _ _
      | exact spec_kindOfPart.mono _ _
      | exact spec_parted.mono _ _ _
      | exact LeO.none _
      | refine LeO.ite ?_ ?_
      | refine LeO.bind ?_ (fun _ => ?_)
    · intro y0 y1 y2 y3 y4 y5 y6 y7 y8
      unfold spec_values.j3
      repeat' first
      | (with_reducible exact ih0 _ _ _ _ _ _)
      | (with_reducible exact ih1 _ _ _ _)
      | (with_reducible exact ih2 _ _ _ _ _ _ _ _ _)
      | (with_reducible exact ih3 _ _ _ _ _ _ _ _ _)
      | (with_reducible exact spec_joinTexts.mono _ _ _)
      | (with_reducible exact spec_kindOfPart.mono _ _)
      | (with_reducible exact spec_parted.mono _ _ _)
      | (with_reducible exact LeO.refl _)
      | (with_reducible exact LeO.none _)
      | (with_reducible refine LeO.ite ?_ ?_)
      | (with_reducible refine LeO.bind ?_ (fun _ => ?_))
      | exact ih0 _ _ _ _ _ _
      | exact ih1 _ _ _ _
      | exact ih2 _ _ _ _ _ _ _ _ _
      | exact ih3 _ _ _ _ _ _ _ _ _
      | exact spec_joinTexts.mono _ _ _
      | exact spec_kindOfPart.mono _ _
      | exact spec_parted.mono _ _ _
      | exact LeO.none _
      | refine LeO.ite ?_ ?_
      | refine LeO.bind ?_ (fun _ => ?_)
theorem spec_values.mono : ∀ a0 a1 k, LeO (spec_values.f k a0 a1) (spec_values.f (k + 1) a0 a1) := by
  intro a0 a1 k
  obtain ⟨ih0, ih1, ih2, ih3⟩ := spec_values.mono_l k
  unfold spec_values.f
  repeat' first
      | (with_reducible exact ih0 _ _ _ _ _ _)
      | (with_reducible exact ih1 _ _ _ _)
      | (with_reducible exact ih2 _ _ _ _ _ _ _ _ _)
      | (with_reducible exact ih3 _ _ _ _ _ _ _ _ _)
      | (with_reducible exact spec_joinTexts.mono _ _ _)
      | (with_reducible exact spec_kindOfPart.mono _ _)
      | (with_reducible exact spec_parted.mono _ _ _)
      | (with_reducible exact LeO.refl _)
      | (with_reducible exact LeO.none _)
      | (with_reducible refine LeO.ite ?_ ?_)
      | (with_reducible refine LeO.bind ?_ (fun _ => ?_))
      | exact ih0 _ _ _ _ _ _
      | exact ih1 _ _ _ _
      | exact ih2 _ _ _ _ _ _ _ _ _
      | exact ih3 _ _ _ _ _ _ _ _ _
      | exact spec_joinTexts.mono _ _ _
      | exact spec_kindOfPart.mono _ _
      | exact spec_parted.mono _ _ _
      | exact LeO.none _
      | refine LeO.ite ?_ ?_
      | refine LeO.bind ?_ (fun _ => ?_)
set_option maxHeartbeats 8000000 in
set_option maxRecDepth 100000 in
theorem spec_values.calls (k : Nat) (a0 : ByteArray) (a1 : ByteArray) (r1 : List ByteArray) (r2 : Bool) (r3 : Int) (w : World) (h : spec_values.f k a0 a1 = some (r1, r2, r3)) :
    Calls Tryd.prog 29 #[.string a0, .string a1] w fun e w' => ∃ v0_ : Value, e = .returned (.tuple #[v0_, .bool r2, .int .i64 r3]) ∧ Kd.R Kd.string 9 w' w.heap.size (fun _ => True) v0_ r1 ∧ Below w.heap.size w w' := by
  have HB := Aside0.mk (Below.refl w.heap.size w)
  have H : ((spec_stripped.f a0).bind fun t125 => ((spec_parted.f k t125 47).bind fun t126 => ((spec_stripped.f a1).bind fun t129 => ((spec_parted.f k t129 47).bind fun t130 => (spec_values.l0 k t126 t130 ([] : List ByteArray) t126 (t126.length : Int) 0))))) = some (r1, r2, r3) := h
  clear h
  replace H := Option.bind_eq_some_iff.mp H
  obtain ⟨t125, A30, H⟩ := H
  replace H : ((spec_parted.f k t125 47).bind fun t126 => ((spec_stripped.f a1).bind fun t129 => ((spec_parted.f k t129 47).bind fun t130 => (spec_values.l0 k t126 t130 ([] : List ByteArray) t126 (t126.length : Int) 0)))) = some (r1, r2, r3) := H
  have A3 := Aside0.mk A30
  clear A30
  replace H := Option.bind_eq_some_iff.mp H
  obtain ⟨t126, A40, H⟩ := H
  replace H : ((spec_stripped.f a1).bind fun t129 => ((spec_parted.f k t129 47).bind fun t130 => (spec_values.l0 k t126 t130 ([] : List ByteArray) t126 (t126.length : Int) 0))) = some (r1, r2, r3) := H
  have A4 := Aside0.mk A40
  clear A40
  replace H := Option.bind_eq_some_iff.mp H
  obtain ⟨t129, A50, H⟩ := H
  replace H : ((spec_parted.f k t129 47).bind fun t130 => (spec_values.l0 k t126 t130 ([] : List ByteArray) t126 (t126.length : Int) 0)) = some (r1, r2, r3) := H
  have A5 := Aside0.mk A50
  clear A50
  replace H := Option.bind_eq_some_iff.mp H
  obtain ⟨t130, A60, H⟩ := H
  replace H : (spec_values.l0 k t126 t130 ([] : List ByteArray) t126 (t126.length : Int) 0) = some (r1, r2, r3) := H
  have A6 := Aside0.mk A60
  clear A60
  have H' := Aside0.mk H
  clear H
  go_enter Tryd.func29, Tryd.ntmps29
  go_wp2_with (first | ((with_reducible refine gate_callee (f := 28) rfl ?_); refine goesL_ (some 16) rfl rfl Tryd.func28 (by kernel_rfl) rfl #[.string a0] rfl (by (try simp only [List.map_toArray, List.map_cons, List.map_nil]); first | done | rfl | (simp only [List.length_drop, List.length_take]; rfl)) ?_; (with_reducible refine (spec_stripped.calls a0 t125 _ A3.out).mono ?_); rintro e w' ⟨rfl, ⟨nd, rfl⟩⟩; refine ⟨_, rfl, ?_⟩) | ((with_reducible refine gate_callee (f := 37) rfl ?_); refine goesL_ (some 17) rfl rfl Tryd.func37 (by kernel_rfl) rfl #[.string t125, .int .u8 47] rfl (by (try simp only [List.map_toArray, List.map_cons, List.map_nil]); first | done | rfl | (simp only [List.length_drop, List.length_take]; rfl)) ?_; (with_reducible refine (spec_parted.calls k t125 47 t126 _ A4.out).mono ?_); rintro e w7 ⟨v127, rfl, ho0, hb⟩; refine ⟨_, rfl, ?_⟩; have n0_ := Aside0.mk (Kd.R_lower ho0 (below_size (by repeat (first | (with_reducible first | exact HB.out | apply below_alloc | apply pw_below_drewN | apply below_drew1) | exact HB.out)))); have n1_ := Aside0.mk (below_step (by repeat (first | (with_reducible first | exact HB.out | apply below_alloc | apply pw_below_drewN | apply below_drew1) | exact HB.out)) hb); clear HB; have HO128 := n0_; have HB := n1_; clear n0_ n1_; (try clear hb); (try clear hb2); (try clear hk); (try clear hi); (try clear ho0)) | ((with_reducible refine gate_callee (f := 28) rfl ?_); refine goesL_ (some 19) rfl rfl Tryd.func28 (by kernel_rfl) rfl #[.string a1] rfl (by (try simp only [List.map_toArray, List.map_cons, List.map_nil]); first | done | rfl | (simp only [List.length_drop, List.length_take]; rfl)) ?_; (with_reducible refine (spec_stripped.calls a1 t129 _ A5.out).mono ?_); rintro e w' ⟨rfl, ⟨nd, rfl⟩⟩; refine ⟨_, rfl, ?_⟩) | ((with_reducible refine gate_callee (f := 37) rfl ?_); refine goesL_ (some 20) rfl rfl Tryd.func37 (by kernel_rfl) rfl #[.string t129, .int .u8 47] rfl (by (try simp only [List.map_toArray, List.map_cons, List.map_nil]); first | done | rfl | (simp only [List.length_drop, List.length_take]; rfl)) ?_; (with_reducible refine (spec_parted.calls k t129 47 t130 _ A6.out).mono ?_); rintro e w8 ⟨v131, rfl, ho0, hb⟩; refine ⟨_, rfl, ?_⟩; have n0_ := Aside0.mk (Kd.R_elder' (by (with_reducible repeat (first | apply Kd.R_alloc | apply Kd.R_drewN | apply Kd.R_drew)); exact HO128.out) (Kd.R_base ho0) hb); have n1_ := Aside0.mk (Kd.R_lower (Kd.R_new' ho0 (Kd.R_lt (by (with_reducible repeat (first | apply Kd.R_alloc | apply Kd.R_drewN | apply Kd.R_drew)); exact HO128.out))) (below_size (by repeat (first | (with_reducible first | exact HB.out | apply below_alloc | apply pw_below_drewN | apply below_drew1) | exact HB.out)))); have n2_ := Aside0.mk (below_step (by repeat (first | (with_reducible first | exact HB.out | apply below_alloc | apply pw_below_drewN | apply below_drew1) | exact HB.out)) hb); clear HO128; clear HB; have HO128 := n0_; have HO132 := n1_; have HB := n2_; clear n0_ n1_ n2_; (try clear hb); (try clear hb2); (try clear hk); (try clear hi); (try clear ho0); obtain ⟨Ao9, co9, eo9⟩ := Kd.R_slice HO128.out; subst eo9))
  go_loopg [9, 23] k (fun kq v9 v23 w' => ∃ (x9_1 : List ByteArray) (x23_1 : Int), v23 = .int .i64 x23_1 ∧ Aside0 (spec_values.l0 kq t126 t130 x9_1 t126 (t126.length : Int) x23_1 = some (r1, r2, r3)) ∧ Aside0 (kq ≤ k) ∧ Aside0 (Kd.R Kd.string 9 w' w.heap.size (fun k_ => some k_ ≠ (v131 : Value).ownBlock ∧ some k_ ≠ (v9 : Value).ownBlock) (.slice Ao9 t126.length co9) t126) ∧ Aside0 (Kd.R Kd.string 9 w' w.heap.size (fun k_ => some k_ ≠ ((.slice Ao9 t126.length co9) : Value).ownBlock ∧ some k_ ≠ (v9 : Value).ownBlock ∧ some k_ ≠ ((.slice Ao9 t126.length co9) : Value).ownBlock) v131 t130) ∧ Aside0 (Kd.R Kd.string 9 w' w.heap.size (fun k_ => some k_ ≠ ((.slice Ao9 t126.length co9) : Value).ownBlock ∧ some k_ ≠ (v131 : Value).ownBlock ∧ some k_ ≠ ((.slice Ao9 t126.length co9) : Value).ownBlock) v9 x9_1) ∧ Aside0 (Kd.R Kd.string 9 w' w.heap.size (fun k_ => some k_ ≠ (v131 : Value).ownBlock ∧ some k_ ≠ (v9 : Value).ownBlock) (.slice Ao9 t126.length co9) t126) ∧ Aside0 (Below w.heap.size w w'))
  case atStart => exact ⟨(([] : List ByteArray)), (0), (by first | rfl | (simp; done) | (simp [*]; done)), H', ⟨Nat.le_refl _⟩, ⟨by (with_reducible repeat (first | apply Kd.R_alloc | apply Kd.R_drewN | apply Kd.R_drew)); exact Kd.R_mono HO128.out (fun _ hk => ⟨hk.2, (by simp [Value.ownBlock])⟩)⟩, ⟨by (with_reducible repeat (first | apply Kd.R_alloc | apply Kd.R_drewN | apply Kd.R_drew)); exact Kd.R_mono HO132.out (fun _ hk => ⟨hk.2, ⟨(by simp [Value.ownBlock]), hk.2⟩⟩)⟩, ⟨by first | exact Kd.R_nil _ _ _ _ _ | exact Kd.N_nil _ _ _ _ _ | exact Kd.V_nil _ _ _ _ _ | exact Kd.Q_nil _ _ _ _ _ | exact Kd.S_nil _ _ _ _ _⟩, ⟨by (with_reducible repeat (first | apply Kd.R_alloc | apply Kd.R_drewN | apply Kd.R_drew)); exact Kd.R_mono HO128.out (fun _ hk => ⟨hk.2, (by simp [Value.ownBlock])⟩)⟩, ⟨by repeat (first | (with_reducible first | exact HB.out | apply below_alloc | apply pw_below_drewN | apply below_drew1) | exact HB.out)⟩⟩
  case round =>
    clear H'
    try clear c2
    try clear p2
    try clear c3
    obtain ⟨x9_1, x23_1, rfl, HA, HK1, HO_7, HO_8, HO_9, HO_21, HB⟩ := hrel
    cases gk with
    | zero => exact absurd HA.out (by simp [spec_values.l0])
    | succ k1 =>
      have H := HA.out
      clear HA
      simp only [spec_values.l0] at H
      by_cases c10 : x23_1 < (t126.length : Int)
      · rw [if_pos c10] at H
        have c10b0 : decide (x23_1 < (t126.length : Int)) = true := decide_eq_true c10
        clear c10
        by_cases c11 : 0 ≤ x23_1
        · rw [if_pos c11] at H
          have c11b0 : decide (0 ≤ x23_1) = true := decide_eq_true c11
          clear c11
          by_cases c12 : x23_1 < (t126.length : Int)
          · rw [if_pos c12] at H
            have c12b0 : decide (x23_1 < (t126.length : Int)) = true := decide_eq_true c12
            clear c12
            replace H := Option.bind_eq_some_iff.mp H
            obtain ⟨t134, A130, H⟩ := H
            replace H : (if t134 = 2 then (if 0 ≤ (mn x23_1 (t130.length : Int)) then (if (mn x23_1 (t130.length : Int)) ≤ (t130.length : Int) then ((spec_joinTexts.f k1 (t130.drop ((mn x23_1 (t130.length : Int)) : Int).toNat) (⟨#[47]⟩ : ByteArray)).bind fun t139 => (if x9_1.length < 8796093022208 then (some ((x9_1 ++ [t139]), decide (x23_1 ≤ (t130.length : Int)), 1)) else (none))) else (none)) else (none)) else (if x23_1 ≥ (t130.length : Int) then (if t134 = 1 then (if x23_1 ≤ (t126.length : Int) then ((some (t126.drop (x23_1 : Int).toNat : List ByteArray)).bind fun y143 => (spec_values.l1 k1 x9_1 y143 (y143.length : Int) 0)) else (none)) else (some (([] : List ByteArray), false, 1))) else (if t134 = 0 then (if x23_1 < (t130.length : Int) then (spec_values.j2 k1 t126 t130 x9_1 x23_1 t134 t126 (t126.length : Int) x23_1 ((rdOf ByteArray.empty t126 x23_1).toList != (rdOf ByteArray.empty t130 x23_1).toList)) else (none)) else (spec_values.j2 k1 t126 t130 x9_1 x23_1 t134 t126 (t126.length : Int) x23_1 false)))) = some (r1, r2, r3) := H
            have A13 := Aside0.mk A130
            clear A130
            by_cases c14 : t134 = 2
            · rw [if_pos c14] at H
              have c14b0 : (t134 == 2) = true := beq_iff_eq.mpr c14
              have c14b1 : (t134 != 2) = false := bne_eq_false_iff_eq.mpr c14
              clear c14
              obtain ⟨ji15, hji15⟩ : ∃ j_ : Int, (mn x23_1 (t130.length : Int)) = j_ := ⟨_, rfl⟩
              replace H : (if 0 ≤ (ji15) then (if (ji15) ≤ (t130.length : Int) then ((spec_joinTexts.f k1 (t130.drop ((ji15) : Int).toNat) (⟨#[47]⟩ : ByteArray)).bind fun t139 => (if x9_1.length < 8796093022208 then (some ((x9_1 ++ [t139]), decide (x23_1 ≤ (t130.length : Int)), 1)) else (none))) else (none)) else (none)) = some (r1, r2, r3) := by first | (rw [hji15] at H; exact H) | (simp only [hji15] at H ⊢; exact H)
              (try rw [hji15] at A13)
              have hji15_ : (if (t130.length : Int) < x23_1 then (t130.length : Int) else x23_1) = ji15 := hji15
              by_cases c16 : 0 ≤ (ji15)
              · rw [if_pos c16] at H
                have c16b0 := eq_true c16
                have c16b1 : decide (0 ≤ (ji15)) = true := decide_eq_true c16
                clear c16
                by_cases c17 : (ji15) ≤ (t130.length : Int)
                · rw [if_pos c17] at H
                  have c17b0 := eq_true c17
                  have c17b1 : decide ((ji15) ≤ (t130.length : Int)) = true := decide_eq_true c17
                  clear c17
                  obtain ⟨y135, hy135⟩ : ∃ y_ : List ByteArray, y_ = (t130.drop ((ji15) : Int).toNat) := ⟨_, rfl⟩
                  replace H : ((spec_joinTexts.f k1 y135 (⟨#[47]⟩ : ByteArray)).bind fun t139 => (if x9_1.length < 8796093022208 then (some ((x9_1 ++ [t139]), decide (x23_1 ≤ (t130.length : Int)), 1)) else (none))) = some (r1, r2, r3) := by first | (rw [hy135]; with_reducible exact H) | (have H2_ := (Option.bind_some _ _).symm.trans H; rw [hy135]; with_reducible exact H2_) | (have H2_ := (Option.bind_some _ _).symm.trans H; with_reducible exact H2_) | with_reducible exact H | (rw [hy135]; exact H) | exact H
                  have Ny135 := Aside0.mk hy135
                  clear hy135
                  replace H := Option.bind_eq_some_iff.mp H
                  obtain ⟨t139, A180, H⟩ := H
                  replace H : (if x9_1.length < 8796093022208 then (some ((x9_1 ++ [t139]), decide (x23_1 ≤ (t130.length : Int)), 1)) else (none)) = some (r1, r2, r3) := H
                  have A18 := Aside0.mk A180
                  clear A180
                  by_cases c19 : x9_1.length < 8796093022208
                  · rw [if_pos c19] at H
                    have LMc19 := Aside0.mk c19
                    clear c19
                    obtain ⟨y140, hy140⟩ : ∃ y_ : List ByteArray, y_ = (x9_1 ++ [t139]) := ⟨_, rfl⟩
                    replace H : (some (y140, decide (x23_1 ≤ (t130.length : Int)), 1)) = some (r1, r2, r3) := by first | (rw [hy140]; with_reducible exact H) | (have H2_ := (Option.bind_some _ _).symm.trans H; rw [hy140]; with_reducible exact H2_) | (have H2_ := (Option.bind_some _ _).symm.trans H; with_reducible exact H2_) | with_reducible exact H | (rw [hy140]; exact H) | exact H
                    have Ny140 := Aside0.mk hy140
                    clear hy140
                    simp only [Option.some.injEq, Prod.mk.injEq] at H
                    obtain ⟨rfl, rfl, rfl⟩ := H
                    have p133 : 0 ≤ (x23_1 : Int) := of_decide_eq_true (by first | (with_reducible assumption) | assumption)
                    have q133 : x23_1 < (t126.length : Int) := of_decide_eq_true (by first | (with_reducible assumption) | assumption)
                    obtain ⟨ad133, e133, hx133_0⟩ := Kd.at_string (Kd.R_reads' HO_21.out).2.2 x23_1 p133 q133
                    cases e133
                    replace p133 := eq_true p133
                    replace q133 := eq_true q133
                    go_wp2_with (first | ((with_reducible refine gate_callee (f := 43) rfl ?_); refine goesL_ (some 29) rfl rfl Tryd.func43 (by kernel_rfl) rfl #[.string (rdOf ByteArray.empty t126 x23_1)] rfl (by (try simp only [List.map_toArray, List.map_cons, List.map_nil]); first | done | rfl | (simp only [List.length_drop, List.length_take]; rfl)) ?_; (with_reducible refine (spec_kindOfPart.calls k1 (rdOf ByteArray.empty t126 x23_1) t134 _ A13.out).mono ?_); rintro e w' ⟨rfl, ⟨nd, rfl⟩⟩; refine ⟨_, rfl, ?_⟩; obtain ⟨Ao20, co20, eo20⟩ := Kd.R_slice HO_8.out; subst eo20; have q21 : ((ji15) : Int) ≤ ((t130.length : Int) : Int) := of_decide_eq_true (by first | (with_reducible assumption) | assumption); obtain ⟨i021, hi021, _, hsz21, _⟩ := info_parts info9; have hroom21 : t130.length ≤ co20 := (Kd.R_reads' HO_8.out).2.1; have hC21 : Kd.C Kd.string _ Ao20 t130.length t130 := (Kd.R_reads' HO_8.out).2.2; have q021 : (0 : Int) ≤ ((ji15) : Int) := of_decide_eq_true (by first | (with_reducible assumption) | assumption); have hcut21 := cut_from (P := Tryd.prog) 22 9 .i64 Tryd.underlying22 hi021 1 hsz21 Ao20 t130.length co20 (ji15) q021 q21; have hr21 := Kd.C_drop (m := ((ji15) : Int).toNat) (c := co20) hC21 (by omega) hroom21; obtain ⟨A21, hA21⟩ : ∃ A1, A1 = (if co20 = ((ji15) : Int).toNat then Ao20 else (Ao20 : Option Addr).map (·.add (((ji15) : Int).toNat * 1))) := ⟨_, rfl⟩; obtain ⟨c21, hc21⟩ : ∃ c1, c1 = co20 - ((ji15) : Int).toNat := ⟨_, rfl⟩; have hy21 : y135.length = t130.length - ((ji15) : Int).toNat := (by rw [Ny135.out, List.length_drop] <;> omega); rw [show (t130).drop ((ji15) : Int).toNat = y135 from Ny135.out.symm] at hr21; replace hr21 : Kd.C Kd.string _ A21 y135.length y135 := (by rw [hA21]; exact hr21); rw [← hy21, ← hA21, ← hc21] at hcut21; have HR138 := Aside0.mk hr21; have HC138 := Aside0.mk (show y135.length ≤ c21 from by rw [hy21, hc21]; exact Nat.sub_le_sub_right hroom21 _); clear hr21 hC21 hroom21 hi021 hsz21 hc21; have KY21 := Aside0.mk hy21; have KA21 := Aside0.mk hA21; clear hy21 hA21; have KL21 := Aside0.mk (show ((ji15) : Int).toNat ≤ t130.length from by omega); replace q21 := eq_true q21) | ((with_reducible refine gate_callee (f := 38) rfl ?_); refine goesL_ (some 40) rfl rfl Tryd.func38 (by kernel_rfl) rfl #[.slice A21 y135.length c21, .string (⟨#[47]⟩ : ByteArray)] rfl (by (try simp only [List.map_toArray, List.map_cons, List.map_nil]); first | done | rfl | (simp only [List.length_drop, List.length_take]; rfl)) ?_; (with_reducible refine (spec_joinTexts.calls k1 _ _ y135 (⟨#[47]⟩ : ByteArray) t139 _ ?side1 ?side2 A18.out).mono ?_); (case side1 => repeat (first | exact (by repeat (first | (with_reducible exact HR138.out) | (with_reducible refine Kd.C_alloc ?_ _) | (with_reducible refine Kd.C_drewN ?_ _) | (with_reducible refine Kd.C_drew ?_) | exact HR138.out)) | (with_reducible refine Kd.C_alloc ?_ _) | (with_reducible refine Kd.C_drewN ?_ _) | (with_reducible refine Kd.C_drew ?_))); (case side2 => exact HC138.out); rintro e w' ⟨rfl, ⟨nd, rfl⟩⟩; refine ⟨_, rfl, ?_⟩) | ((with_reducible refine gate_builtin (b := .append) (xs := #[.tmp 33, .tmp 41]) rfl ?_); at_builtin; refine Kd.R_append Kd.string (w0 := w) w.heap.size rfl (.tmp 33) (.tmp 41) 22 9 (.string ⟨#[]⟩) 16 rfl Tryd.underlying22 info9 rfl (by decide) (by omega) u9 x9_1 t139 [.string t139] (fun k_ => some k_ ≠ (.slice (some ad133) t126.length co9 : Value).ownBlock ∧ some k_ ≠ (.slice Ao20 t130.length co20 : Value).ownBlock ∧ some k_ ≠ (.slice (some ad133) t126.length co9 : Value).ownBlock) (fun _ => False) rfl rfl ?aP (fun _ hk => hk.elim) ?aF ?aO ?aB ?aS ?aL ?_; (case aP => exact rfl); (case aB => exact (by repeat (first | (with_reducible first | exact HB.out | apply below_alloc | apply pw_below_drewN | apply below_drew1) | exact HB.out))); (case aF => exact (fun k_ hk => ⟨Kd.fresh' (Kd.R_lt (by (with_reducible repeat (first | apply Kd.R_alloc | apply Kd.R_drewN | apply Kd.R_drew)); exact HO_7.out)) k_ hk, Kd.fresh' (Kd.R_lt (by (with_reducible repeat (first | apply Kd.R_alloc | apply Kd.R_drewN | apply Kd.R_drew)); exact HO_8.out)) k_ hk, Kd.fresh' (Kd.R_lt (by (with_reducible repeat (first | apply Kd.R_alloc | apply Kd.R_drewN | apply Kd.R_drew)); exact HO_21.out)) k_ hk⟩)); (case aO => exact (by (with_reducible repeat (first | apply Kd.R_alloc | apply Kd.R_drewN | apply Kd.R_drew)); exact HO_9.out)); (case aS => exact (below_size (by repeat (first | (with_reducible first | exact HB.out | apply below_alloc | apply pw_below_drewN | apply below_drew1) | exact HB.out)))); (case aL => have := LMc19.out; omega); intro v141 w22 ho hb hg hat; rw [← Ny140.out] at ho; have n0_ := Aside0.mk (Kd.R_after (ok := (fun k_ => some k_ ≠ (.slice Ao20 t130.length co20 : Value).ownBlock)) (by (with_reducible repeat (first | apply Kd.R_alloc | apply Kd.R_drewN | apply Kd.R_drew)); exact HO_7.out) hg hat); have n1_ := Aside0.mk (Kd.R_after (ok := (fun k_ => some k_ ≠ (.slice (some ad133) t126.length co9 : Value).ownBlock ∧ some k_ ≠ (.slice (some ad133) t126.length co9 : Value).ownBlock)) (by (with_reducible repeat (first | apply Kd.R_alloc | apply Kd.R_drewN | apply Kd.R_drew)); exact Kd.R_mono HO_8.out (fun _ hk => ⟨⟨hk.1, hk.2.2⟩, hk.2.1⟩)) hg hat); have n2_ := Aside0.mk (Kd.R_after (ok := (fun k_ => some k_ ≠ (.slice Ao20 t130.length co20 : Value).ownBlock)) (by (with_reducible repeat (first | apply Kd.R_alloc | apply Kd.R_drewN | apply Kd.R_drew)); exact HO_21.out) hg hat); have n3_ := Aside0.mk (hb); have n4_ := Aside0.mk ((show Kd.C Kd.string w22 A21 y135.length y135 from by rw [Ny135.out, KA21.out]; exact Kd.C_drop (m := ((ji15) : Int).toNat) (c := co20) ((Kd.R_reads' (Kd.R_after (ok := (fun k_ => some k_ ≠ (.slice (some ad133) t126.length co9 : Value).ownBlock ∧ some k_ ≠ (.slice (some ad133) t126.length co9 : Value).ownBlock)) (by (with_reducible repeat (first | apply Kd.R_alloc | apply Kd.R_drewN | apply Kd.R_drew)); exact Kd.R_mono HO_8.out (fun _ hk => ⟨⟨hk.1, hk.2.2⟩, hk.2.1⟩)) hg hat)).2.2) KL21.out ((Kd.R_reads' (Kd.R_after (ok := (fun k_ => some k_ ≠ (.slice (some ad133) t126.length co9 : Value).ownBlock ∧ some k_ ≠ (.slice (some ad133) t126.length co9 : Value).ownBlock)) (by (with_reducible repeat (first | apply Kd.R_alloc | apply Kd.R_drewN | apply Kd.R_drew)); exact Kd.R_mono HO_8.out (fun _ hk => ⟨⟨hk.1, hk.2.2⟩, hk.2.1⟩)) hg hat)).2.1))); have n5_ := Aside0.mk (ho); clear HO_7; clear HO_8; clear HO_21; clear HB; clear HR138; clear HO_9; have HO_7 := n0_; have HO_8 := n1_; have HO_21 := n2_; have HB := n3_; have HR138 := n4_; have HO142 := n5_; clear n0_ n1_ n2_ n3_ n4_ n5_; clear ho hb hg hat))
                    go_ret3
                    exact ⟨_, by first | rfl | (simp [errW_none, errW_some] <;> rfl) | (simp only [← hji15]; first | rfl | (simp [errW_none, errW_some] <;> rfl)) | (simp [*, errW_none, errW_some] <;> rfl), by (with_reducible repeat (first | apply Kd.R_alloc | apply Kd.R_drewN | apply Kd.R_drew)); exact Kd.R_mono HO142.out (fun _ hk => trivial), by repeat (first | (with_reducible first | exact HB.out | apply below_alloc | apply pw_below_drewN | apply below_drew1) | exact HB.out)⟩
                  · rw [if_neg c19] at H
                    exact absurd H (by simp)
                · rw [if_neg c17] at H
                  exact absurd H (by simp)
              · rw [if_neg c16] at H
                exact absurd H (by simp)
            · rw [if_neg c14] at H
              have c14b0 : (t134 == 2) = false := beq_eq_false_iff_ne.mpr c14
              have c14b1 : (t134 != 2) = true := bne_iff_ne.mpr c14
              by_cases c23 : x23_1 ≥ (t130.length : Int)
              · rw [if_pos c23] at H
                have c23b0 : decide ((t130.length : Int) ≤ x23_1) = true := decide_eq_true c23
                clear c23
                by_cases c24 : t134 = 1
                · rw [if_pos c24] at H
                  have c24b0 : (t134 == 1) = true := beq_iff_eq.mpr c24
                  have c24b1 : (t134 != 1) = false := bne_eq_false_iff_eq.mpr c24
                  clear c24
                  have c25b0 := eq_true (of_decide_eq_true (by first | (with_reducible assumption) | assumption) : 0 ≤ x23_1)
                  by_cases c26 : x23_1 ≤ (t126.length : Int)
                  · rw [if_pos c26] at H
                    have c26b0 := eq_true c26
                    have c26b1 : decide (x23_1 ≤ (t126.length : Int)) = true := decide_eq_true c26
                    clear c26
                    obtain ⟨y143, hy143⟩ : ∃ y_ : List ByteArray, y_ = (t126.drop (x23_1 : Int).toNat) := ⟨_, rfl⟩
                    replace H : (spec_values.l1 k1 x9_1 y143 (y143.length : Int) 0) = some (r1, r2, r3) := by first | (rw [hy143]; with_reducible exact H) | (have H2_ := (Option.bind_some _ _).symm.trans H; rw [hy143]; with_reducible exact H2_) | (have H2_ := (Option.bind_some _ _).symm.trans H; with_reducible exact H2_) | with_reducible exact H | (rw [hy143]; exact H) | exact H
                    have Ny143 := Aside0.mk hy143
                    clear hy143
                    have H' := Aside0.mk H
                    clear H
                    have p133 : 0 ≤ (x23_1 : Int) := of_decide_eq_true (by first | (with_reducible assumption) | assumption)
                    have q133 : x23_1 < (t126.length : Int) := of_decide_eq_true (by first | (with_reducible assumption) | assumption)
                    obtain ⟨ad133, e133, hx133_0⟩ := Kd.at_string (Kd.R_reads' HO_21.out).2.2 x23_1 p133 q133
                    cases e133
                    replace p133 := eq_true p133
                    replace q133 := eq_true q133
                    go_wp2_with (first | ((with_reducible refine gate_callee (f := 43) rfl ?_); refine goesL_ (some 29) rfl rfl Tryd.func43 (by kernel_rfl) rfl #[.string (rdOf ByteArray.empty t126 x23_1)] rfl (by (try simp only [List.map_toArray, List.map_cons, List.map_nil]); first | done | rfl | (simp only [List.length_drop, List.length_take]; rfl)) ?_; (with_reducible refine (spec_kindOfPart.calls k1 (rdOf ByteArray.empty t126 x23_1) t134 _ A13.out).mono ?_); rintro e w' ⟨rfl, ⟨nd, rfl⟩⟩; refine ⟨_, rfl, ?_⟩; obtain ⟨Ao27, co27, eo27⟩ := Kd.R_slice HO_8.out; subst eo27; have q28 : (x23_1 : Int) ≤ ((t126.length : Int) : Int) := of_decide_eq_true (by first | (with_reducible assumption) | assumption); obtain ⟨i028, hi028, _, hsz28, _⟩ := info_parts info9; have hroom28 : t126.length ≤ co9 := (Kd.R_reads' HO_7.out).2.1; have hC28 : Kd.C Kd.string _ (some ad133) t126.length t126 := (Kd.R_reads' HO_7.out).2.2; have q028 : (0 : Int) ≤ (x23_1 : Int) := of_decide_eq_true (by first | (with_reducible assumption) | assumption); have hcut28 := cut_from (P := Tryd.prog) 22 9 .i64 Tryd.underlying22 hi028 1 hsz28 (some ad133) t126.length co9 x23_1 q028 q28; have hr28 := Kd.C_drop (m := (x23_1 : Int).toNat) (c := co9) hC28 (by omega) hroom28; obtain ⟨A28, hA28⟩ : ∃ A1, A1 = (if co9 = (x23_1 : Int).toNat then (some ad133) else ((some ad133) : Option Addr).map (·.add ((x23_1 : Int).toNat * 1))) := ⟨_, rfl⟩; obtain ⟨c28, hc28⟩ : ∃ c1, c1 = co9 - (x23_1 : Int).toNat := ⟨_, rfl⟩; have hy28 : y143.length = t126.length - (x23_1 : Int).toNat := (by rw [Ny143.out, List.length_drop] <;> omega); rw [show (t126).drop (x23_1 : Int).toNat = y143 from Ny143.out.symm] at hr28; replace hr28 : Kd.C Kd.string _ A28 y143.length y143 := (by rw [hA28]; exact hr28); rw [← hy28, ← hA28, ← hc28] at hcut28; have HR146 := Aside0.mk hr28; have HC146 := Aside0.mk (show y143.length ≤ c28 from by rw [hy28, hc28]; exact Nat.sub_le_sub_right hroom28 _); clear hr28 hC28 hroom28 hi028 hsz28 hc28; have KY28 := Aside0.mk hy28; have KA28 := Aside0.mk hA28; clear hy28 hA28; have KL28 := Aside0.mk (show (x23_1 : Int).toNat ≤ t126.length from by omega); replace q28 := eq_true q28))
                    go_loopg [9, 58] k1 (fun kq v9 v58 w' => ∃ (x9_2 : List ByteArray) (x58_2 : Int), v58 = .int .i64 x58_2 ∧ Aside0 (spec_values.l1 kq x9_2 y143 (y143.length : Int) x58_2 = some (r1, r2, r3)) ∧ Aside0 (kq ≤ k1) ∧ Aside0 (Kd.R Kd.string 9 w' w.heap.size (fun k_ => some k_ ≠ (v9 : Value).ownBlock) (.slice (some ad133) t126.length co9) t126) ∧ Aside0 (Kd.R Kd.string 9 w' w.heap.size (fun k_ => some k_ ≠ ((.slice (some ad133) t126.length co9) : Value).ownBlock) v9 x9_2) ∧ Aside0 (Below w.heap.size w w'))
                    case atStart => exact ⟨(x9_1), (0), (by first | rfl | (simp; done) | (simp [*]; done)), H', ⟨Nat.le_refl _⟩, ⟨by (with_reducible repeat (first | apply Kd.R_alloc | apply Kd.R_drewN | apply Kd.R_drew)); exact Kd.R_mono HO_7.out (fun _ hk => hk.2)⟩, ⟨by (with_reducible repeat (first | apply Kd.R_alloc | apply Kd.R_drewN | apply Kd.R_drew)); exact Kd.R_mono HO_9.out (fun _ hk => hk.1)⟩, ⟨by repeat (first | (with_reducible first | exact HB.out | apply below_alloc | apply pw_below_drewN | apply below_drew1) | exact HB.out)⟩⟩
                    case round =>
                      clear H'
                      try clear c1
                      try clear p1
                      try clear q1
                      try clear hx1
                      try clear c2
                      try clear p2
                      try clear q2
                      try clear c3
                      try clear c4
                      try clear c10
                      try clear c10b0
                      try clear c11
                      try clear c11b0
                      try clear c12
                      try clear c12b0
                      try clear p13
                      try clear q13
                      try clear hx13
                      try clear c14
                      try clear c14b0
                      try clear c14b1
                      try clear c16
                      try clear c16b0
                      try clear c16b1
                      try clear c17
                      try clear c17b0
                      try clear c17b1
                      try clear c19
                      try clear c21
                      try clear q21
                      try clear c23
                      try clear c23b0
                      try clear c24
                      try clear c24b0
                      try clear c24b1
                      try clear c25
                      try clear c25b0
                      try clear c26
                      try clear c26b0
                      try clear c26b1
                      try clear c28
                      try clear q28
                      try clear hx133_0
                      try clear p133
                      try clear p2
                      try clear q021
                      try clear q028
                      try clear q133
                      try clear q21
                      try clear q28
                      obtain ⟨x9_2, x58_2, rfl, HA, HK2, HO_7, HO_9, HB⟩ := hrel
                      cases gk with
                      | zero => exact absurd HA.out (by simp [spec_values.l1])
                      | succ k2 =>
                        have H := HA.out
                        clear HA
                        simp only [spec_values.l1] at H
                        by_cases c29 : x58_2 < (y143.length : Int)
                        · rw [if_pos c29] at H
                          have c29b0 : decide (x58_2 < (y143.length : Int)) = true := decide_eq_true c29
                          clear c29
                          by_cases c30 : 0 ≤ x58_2
                          · rw [if_pos c30] at H
                            have c30b0 : decide (0 ≤ x58_2) = true := decide_eq_true c30
                            clear c30
                            by_cases c31 : x58_2 < (y143.length : Int)
                            · rw [if_pos c31] at H
                              have c31b0 : decide (x58_2 < (y143.length : Int)) = true := decide_eq_true c31
                              clear c31
                              replace H := Option.bind_eq_some_iff.mp H
                              obtain ⟨t148, A320, H⟩ := H
                              replace H : (if t148 = 1 then (if x9_2.length < 8796093022208 then (spec_values.l1 k2 (x9_2 ++ [(⟨#[]⟩ : ByteArray)]) y143 (y143.length : Int) (wrap64 (x58_2 + 1))) else (none)) else (some (([] : List ByteArray), false, 2))) = some (r1, r2, r3) := H
                              have A32 := Aside0.mk A320
                              clear A320
                              by_cases c33 : t148 = 1
                              · rw [if_pos c33] at H
                                have c33b0 : (t148 == 1) = true := beq_iff_eq.mpr c33
                                have c33b1 : (t148 != 1) = false := bne_eq_false_iff_eq.mpr c33
                                clear c33
                                by_cases c34 : x9_2.length < 8796093022208
                                · rw [if_pos c34] at H
                                  have LMc34 := Aside0.mk c34
                                  clear c34
                                  obtain ⟨y149, hy149⟩ : ∃ y_ : List ByteArray, y_ = (x9_2 ++ [(⟨#[]⟩ : ByteArray)]) := ⟨_, rfl⟩
                                  replace H : (spec_values.l1 k2 y149 y143 (y143.length : Int) (wrap64 (x58_2 + 1))) = some (r1, r2, r3) := by first | (rw [hy149]; with_reducible exact H) | (have H2_ := (Option.bind_some _ _).symm.trans H; rw [hy149]; with_reducible exact H2_) | (have H2_ := (Option.bind_some _ _).symm.trans H; with_reducible exact H2_) | with_reducible exact H | (rw [hy149]; exact H) | exact H
                                  have Ny149 := Aside0.mk hy149
                                  clear hy149
                                  have H' := Aside0.mk H
                                  clear H
                                  have p147 : 0 ≤ (x58_2 : Int) := of_decide_eq_true (by first | (with_reducible assumption) | assumption)
                                  have q147 : x58_2 < (y143.length : Int) := of_decide_eq_true (by first | (with_reducible assumption) | assumption)
                                  have hrd_ := Kd.C_drop (m := (x23_1 : Int).toNat) (c := co9) (Kd.R_reads' HO_7.out).2.2 KL28.out (Kd.R_reads' HO_7.out).2.1
                                  rw [show (t126).drop (x23_1 : Int).toNat = y143 from Ny143.out.symm] at hrd_
                                  obtain ⟨ad147, e147, hx147_0⟩ := Kd.at_string (show Kd.C Kd.string _ A28 y143.length y143 from by rw [KA28.out]; exact hrd_) x58_2 p147 q147
                                  clear hrd_
                                  cases e147
                                  replace p147 := eq_true p147
                                  replace q147 := eq_true q147
                                  go_wp2_with (first | ((with_reducible refine gate_callee (f := 43) rfl ?_); refine goesL_ (some 63) rfl rfl Tryd.func43 (by kernel_rfl) rfl #[.string (rdOf ByteArray.empty y143 x58_2)] rfl (by (try simp only [List.map_toArray, List.map_cons, List.map_nil]); first | done | rfl | (simp only [List.length_drop, List.length_take]; rfl)) ?_; (with_reducible refine (spec_kindOfPart.calls k2 (rdOf ByteArray.empty y143 x58_2) t148 _ A32.out).mono ?_); rintro e w' ⟨rfl, ⟨nd, rfl⟩⟩; refine ⟨_, rfl, ?_⟩) | ((with_reducible refine gate_builtin (b := .append) (xs := #[.tmp 65, .tmp 66]) rfl ?_); at_builtin; refine Kd.R_append Kd.string (w0 := w) w.heap.size rfl (.tmp 65) (.tmp 66) 22 9 (.string ⟨#[]⟩) 16 rfl Tryd.underlying22 info9 rfl (by decide) (by omega) u9 x9_2 (⟨#[]⟩ : ByteArray) [.string (⟨#[]⟩ : ByteArray)] (fun k_ => some k_ ≠ ((.slice (some ad133) t126.length co9) : Value).ownBlock) (fun _ => False) rfl rfl ?aP (fun _ hk => hk.elim) ?aF ?aO ?aB ?aS ?aL ?_; (case aP => exact rfl); (case aB => exact (by repeat (first | (with_reducible first | exact HB.out | apply below_alloc | apply pw_below_drewN | apply below_drew1) | exact HB.out))); (case aF => exact (fun k_ hk => Kd.fresh' (Kd.R_lt (by (with_reducible repeat (first | apply Kd.R_alloc | apply Kd.R_drewN | apply Kd.R_drew)); exact HO_7.out)) k_ hk)); (case aO => exact (by (with_reducible repeat (first | apply Kd.R_alloc | apply Kd.R_drewN | apply Kd.R_drew)); exact HO_9.out)); (case aS => exact (below_size (by repeat (first | (with_reducible first | exact HB.out | apply below_alloc | apply pw_below_drewN | apply below_drew1) | exact HB.out)))); (case aL => have := LMc34.out; omega); intro v150 w35 ho hb hg hat; rw [← Ny149.out] at ho; have n0_ := Aside0.mk (hb); have n1_ := Aside0.mk (ho); have n2_ := Aside0.mk (Kd.R_mono (Kd.R_after (ok := fun _ => True) (by (with_reducible repeat (first | apply Kd.R_alloc | apply Kd.R_drewN | apply Kd.R_drew)); exact Kd.R_mono HO_7.out (fun _ hk => ⟨trivial, hk⟩)) hg hat) (fun _ hk => hk.2)); clear HB; clear HO_9; clear HO_7; have HB := n0_; have HO151 := n1_; have HO_7 := n2_; clear n0_ n1_ n2_; clear ho hb hg hat))
                                  go_roundg k2
                                  case measure => have := HK1.out; have := HK2.out; omega
                                  case rel => exact ⟨(y149), (wrap64 (x58_2 + 1)), (by first | rfl | (simp; done) | (simp [*]; done)), H', ⟨by have := HK1.out; have := HK2.out; omega⟩, ⟨by (with_reducible repeat (first | apply Kd.R_alloc | apply Kd.R_drewN | apply Kd.R_drew)); exact HO_7.out⟩, ⟨by (with_reducible repeat (first | apply Kd.R_alloc | apply Kd.R_drewN | apply Kd.R_drew)); exact HO151.out⟩, ⟨by repeat (first | (with_reducible first | exact HB.out | apply below_alloc | apply pw_below_drewN | apply below_drew1) | exact HB.out)⟩⟩
                                · rw [if_neg c34] at H
                                  exact absurd H (by simp)
                              · rw [if_neg c33] at H
                                have c33b0 : (t148 == 1) = false := beq_eq_false_iff_ne.mpr c33
                                have c33b1 : (t148 != 1) = true := bne_iff_ne.mpr c33
                                simp only [Option.some.injEq, Prod.mk.injEq] at H
                                obtain ⟨rfl, rfl, rfl⟩ := H
                                have p147 : 0 ≤ (x58_2 : Int) := of_decide_eq_true (by first | (with_reducible assumption) | assumption)
                                have q147 : x58_2 < (y143.length : Int) := of_decide_eq_true (by first | (with_reducible assumption) | assumption)
                                have hrd_ := Kd.C_drop (m := (x23_1 : Int).toNat) (c := co9) (Kd.R_reads' HO_7.out).2.2 KL28.out (Kd.R_reads' HO_7.out).2.1
                                rw [show (t126).drop (x23_1 : Int).toNat = y143 from Ny143.out.symm] at hrd_
                                obtain ⟨ad147, e147, hx147_0⟩ := Kd.at_string (show Kd.C Kd.string _ A28 y143.length y143 from by rw [KA28.out]; exact hrd_) x58_2 p147 q147
                                clear hrd_
                                cases e147
                                replace p147 := eq_true p147
                                replace q147 := eq_true q147
                                go_wp2_with (first | ((with_reducible refine gate_callee (f := 43) rfl ?_); refine goesL_ (some 63) rfl rfl Tryd.func43 (by kernel_rfl) rfl #[.string (rdOf ByteArray.empty y143 x58_2)] rfl (by (try simp only [List.map_toArray, List.map_cons, List.map_nil]); first | done | rfl | (simp only [List.length_drop, List.length_take]; rfl)) ?_; (with_reducible refine (spec_kindOfPart.calls k2 (rdOf ByteArray.empty y143 x58_2) t148 _ A32.out).mono ?_); rintro e w' ⟨rfl, ⟨nd, rfl⟩⟩; refine ⟨_, rfl, ?_⟩))
                                go_ret3
                                exact ⟨_, by first | rfl | (simp [errW_none, errW_some] <;> rfl) | (simp [*, errW_none, errW_some] <;> rfl), by first | exact Kd.R_nil _ _ _ _ _ | exact Kd.N_nil _ _ _ _ _ | exact Kd.V_nil _ _ _ _ _ | exact Kd.Q_nil _ _ _ _ _ | exact Kd.S_nil _ _ _ _ _, by repeat (first | (with_reducible first | exact HB.out | apply below_alloc | apply pw_below_drewN | apply below_drew1) | exact HB.out)⟩
                            · rw [if_neg c31] at H
                              exact absurd H (by simp)
                          · rw [if_neg c30] at H
                            exact absurd H (by simp)
                        · rw [if_neg c29] at H
                          have c29b0 : decide (x58_2 < (y143.length : Int)) = false := decide_eq_false c29
                          clear c29
                          simp only [Option.some.injEq, Prod.mk.injEq] at H
                          obtain ⟨rfl, rfl, rfl⟩ := H
                          go_wp2
                          go_ret3
                          exact ⟨_, by first | rfl | (simp [errW_none, errW_some] <;> rfl) | (simp [*, errW_none, errW_some] <;> rfl), by (with_reducible repeat (first | apply Kd.R_alloc | apply Kd.R_drewN | apply Kd.R_drew)); exact Kd.R_mono HO_9.out (fun _ hk => trivial), by repeat (first | (with_reducible first | exact HB.out | apply below_alloc | apply pw_below_drewN | apply below_drew1) | exact HB.out)⟩
                  · rw [if_neg c26] at H
                    exact absurd H (by simp)
                · rw [if_neg c24] at H
                  have c24b0 : (t134 == 1) = false := beq_eq_false_iff_ne.mpr c24
                  have c24b1 : (t134 != 1) = true := bne_iff_ne.mpr c24
                  simp only [Option.some.injEq, Prod.mk.injEq] at H
                  obtain ⟨rfl, rfl, rfl⟩ := H
                  have p133 : 0 ≤ (x23_1 : Int) := of_decide_eq_true (by first | (with_reducible assumption) | assumption)
                  have q133 : x23_1 < (t126.length : Int) := of_decide_eq_true (by first | (with_reducible assumption) | assumption)
                  obtain ⟨ad133, e133, hx133_0⟩ := Kd.at_string (Kd.R_reads' HO_21.out).2.2 x23_1 p133 q133
                  cases e133
                  replace p133 := eq_true p133
                  replace q133 := eq_true q133
                  go_wp2_with (first | ((with_reducible refine gate_callee (f := 43) rfl ?_); refine goesL_ (some 29) rfl rfl Tryd.func43 (by kernel_rfl) rfl #[.string (rdOf ByteArray.empty t126 x23_1)] rfl (by (try simp only [List.map_toArray, List.map_cons, List.map_nil]); first | done | rfl | (simp only [List.length_drop, List.length_take]; rfl)) ?_; (with_reducible refine (spec_kindOfPart.calls k1 (rdOf ByteArray.empty t126 x23_1) t134 _ A13.out).mono ?_); rintro e w' ⟨rfl, ⟨nd, rfl⟩⟩; refine ⟨_, rfl, ?_⟩; obtain ⟨Ao36, co36, eo36⟩ := Kd.R_slice HO_8.out; subst eo36))
                  go_ret3
                  exact ⟨_, by first | rfl | (simp [errW_none, errW_some] <;> rfl) | (simp [*, errW_none, errW_some] <;> rfl), by first | exact Kd.R_nil _ _ _ _ _ | exact Kd.N_nil _ _ _ _ _ | exact Kd.V_nil _ _ _ _ _ | exact Kd.Q_nil _ _ _ _ _ | exact Kd.S_nil _ _ _ _ _, by repeat (first | (with_reducible first | exact HB.out | apply below_alloc | apply pw_below_drewN | apply below_drew1) | exact HB.out)⟩
              · rw [if_neg c23] at H
                have c23b0 : decide ((t130.length : Int) ≤ x23_1) = false := decide_eq_false c23
                clear c23
                have HC37 := Aside0.mk H
                clear H
                have p133 : 0 ≤ (x23_1 : Int) := of_decide_eq_true (by first | (with_reducible assumption) | assumption)
                have q133 : x23_1 < (t126.length : Int) := of_decide_eq_true (by first | (with_reducible assumption) | assumption)
                obtain ⟨ad133, e133, hx133_0⟩ := Kd.at_string (Kd.R_reads' HO_21.out).2.2 x23_1 p133 q133
                cases e133
                replace p133 := eq_true p133
                replace q133 := eq_true q133
                go_upto_region 20 with (first | ((with_reducible refine gate_callee (f := 43) rfl ?_); refine goesL_ (some 29) rfl rfl Tryd.func43 (by kernel_rfl) rfl #[.string (rdOf ByteArray.empty t126 x23_1)] rfl (by (try simp only [List.map_toArray, List.map_cons, List.map_nil]); first | done | rfl | (simp only [List.length_drop, List.length_take]; rfl)) ?_; (with_reducible refine (spec_kindOfPart.calls k1 (rdOf ByteArray.empty t126 x23_1) t134 _ A13.out).mono ?_); rintro e w' ⟨rfl, ⟨nd, rfl⟩⟩; refine ⟨_, rfl, ?_⟩; obtain ⟨Ao38, co38, eo38⟩ := Kd.R_slice HO_8.out; subst eo38))
                (try simp only [Act.put, List.setIfInBounds_toArray, List.set_cons_zero, List.set_cons_succ])
                go_cut [70] (fun v70 wc => ∃ (kq : Nat) (x70_36 : Bool), v70 = .bool x70_36 ∧ Aside0 (spec_values.j2 kq t126 t130 x9_1 x23_1 t134 t126 (t126.length : Int) x23_1 x70_36 = some (r1, r2, r3)) ∧ Aside0 (kq ≤ k1) ∧ Aside0 (Kd.R Kd.string 9 wc w.heap.size (fun k_ => some k_ ≠ ((.slice Ao38 t130.length co38) : Value).ownBlock ∧ some k_ ≠ (u9 : Value).ownBlock) (.slice (some ad133) t126.length co9) t126) ∧ Aside0 (Kd.R Kd.string 9 wc w.heap.size (fun k_ => some k_ ≠ ((.slice (some ad133) t126.length co9) : Value).ownBlock ∧ some k_ ≠ (u9 : Value).ownBlock ∧ some k_ ≠ ((.slice (some ad133) t126.length co9) : Value).ownBlock) (.slice Ao38 t130.length co38) t130) ∧ Aside0 (Kd.R Kd.string 9 wc w.heap.size (fun k_ => some k_ ≠ ((.slice (some ad133) t126.length co9) : Value).ownBlock ∧ some k_ ≠ ((.slice Ao38 t130.length co38) : Value).ownBlock ∧ some k_ ≠ ((.slice (some ad133) t126.length co9) : Value).ownBlock) u9 x9_1) ∧ Aside0 (Kd.R Kd.string 9 wc w.heap.size (fun k_ => some k_ ≠ ((.slice Ao38 t130.length co38) : Value).ownBlock ∧ some k_ ≠ (u9 : Value).ownBlock) (.slice (some ad133) t126.length co9) t126) ∧ Aside0 (Below w.heap.size w wc))
                case first =>
                  have H := HC37.out
                  clear HC37
                  by_cases c39 : t134 = 0
                  · rw [if_pos c39] at H
                    have c39b0 : (t134 == 0) = true := beq_iff_eq.mpr c39
                    have c39b1 : (t134 != 0) = false := bne_eq_false_iff_eq.mpr c39
                    clear c39
                    (first | rw [c39b0] | (simp only [i64_w, i32_w]; rw [c39b0]) | skip)
                    by_cases c40 : x23_1 < (t130.length : Int)
                    · rw [if_pos c40] at H
                      have c40b0 : decide (x23_1 < (t130.length : Int)) = true := decide_eq_true c40
                      clear c40
                      have H' := Aside0.mk H
                      clear H
                      have p152 : 0 ≤ (x23_1 : Int) := of_decide_eq_true (by first | (with_reducible assumption) | assumption)
                      have q152 : x23_1 < (t130.length : Int) := of_decide_eq_true (by first | (with_reducible assumption) | assumption)
                      obtain ⟨ad152, e152, hx152_0⟩ := Kd.at_string (Kd.R_reads' HO_8.out).2.2 x23_1 p152 q152
                      cases e152
                      replace p152 := eq_true p152
                      replace q152 := eq_true q152
                      go_wp2
                      go_meet
                      case rel => exact ⟨_, (((rdOf ByteArray.empty t126 x23_1).toList != (rdOf ByteArray.empty t130 x23_1).toList)), (by first | rfl | (simp; done) | (simp [*]; done)), H', ⟨by have := HK1.out; first | omega | exact Nat.le_refl _⟩, ⟨by (with_reducible repeat (first | apply Kd.R_alloc | apply Kd.R_drewN | apply Kd.R_drew)); exact HO_7.out⟩, ⟨by (with_reducible repeat (first | apply Kd.R_alloc | apply Kd.R_drewN | apply Kd.R_drew)); exact HO_8.out⟩, ⟨by (with_reducible repeat (first | apply Kd.R_alloc | apply Kd.R_drewN | apply Kd.R_drew)); exact HO_9.out⟩, ⟨by (with_reducible repeat (first | apply Kd.R_alloc | apply Kd.R_drewN | apply Kd.R_drew)); exact HO_21.out⟩, ⟨by repeat (first | (with_reducible first | exact HB.out | apply below_alloc | apply pw_below_drewN | apply below_drew1) | exact HB.out)⟩⟩
                    · rw [if_neg c40] at H
                      exact absurd H (by simp)
                  · rw [if_neg c39] at H
                    have c39b0 : (t134 == 0) = false := beq_eq_false_iff_ne.mpr c39
                    have c39b1 : (t134 != 0) = true := bne_iff_ne.mpr c39
                    (first | rw [c39b0] | (simp only [i64_w, i32_w]; rw [c39b0]) | skip)
                    have H' := Aside0.mk H
                    clear H
                    go_wp2
                    go_meet
                    case rel => exact ⟨_, (false), (by first | rfl | (simp; done) | (simp [*]; done)), H', ⟨by have := HK1.out; first | omega | exact Nat.le_refl _⟩, ⟨by (with_reducible repeat (first | apply Kd.R_alloc | apply Kd.R_drewN | apply Kd.R_drew)); exact HO_7.out⟩, ⟨by (with_reducible repeat (first | apply Kd.R_alloc | apply Kd.R_drewN | apply Kd.R_drew)); exact HO_8.out⟩, ⟨by (with_reducible repeat (first | apply Kd.R_alloc | apply Kd.R_drewN | apply Kd.R_drew)); exact HO_9.out⟩, ⟨by (with_reducible repeat (first | apply Kd.R_alloc | apply Kd.R_drewN | apply Kd.R_drew)); exact HO_21.out⟩, ⟨by repeat (first | (with_reducible first | exact HB.out | apply below_alloc | apply pw_below_drewN | apply below_drew1) | exact HB.out)⟩⟩
                case rest =>
                  clear HC37
                  try clear c1
                  try clear p1
                  try clear q1
                  try clear hx1
                  try clear c2
                  try clear p2
                  try clear q2
                  try clear c3
                  try clear c4
                  try clear p6
                  try clear c10
                  try clear c10b0
                  try clear c11
                  try clear c11b0
                  try clear c12
                  try clear c12b0
                  try clear p13
                  try clear q13
                  try clear hx13
                  try clear c14
                  try clear c14b0
                  try clear c14b1
                  try clear p14
                  try clear q14
                  try clear hx14
                  try clear p15
                  try clear q15
                  try clear hx15
                  try clear c16
                  try clear c16b0
                  try clear c16b1
                  try clear c17
                  try clear c17b0
                  try clear c17b1
                  try clear c19
                  try clear c21
                  try clear q21
                  try clear c23
                  try clear c23b0
                  try clear c24
                  try clear c24b0
                  try clear c24b1
                  try clear c25
                  try clear c25b0
                  try clear c26
                  try clear c26b0
                  try clear c26b1
                  try clear c28
                  try clear q28
                  try clear c29
                  try clear c29b0
                  try clear c30
                  try clear c30b0
                  try clear c31
                  try clear c31b0
                  try clear c33
                  try clear c33b0
                  try clear c33b1
                  try clear c34
                  try clear c37
                  try clear c38
                  try clear c39
                  try clear c39b0
                  try clear c39b1
                  try clear c40
                  try clear c40b0
                  try clear hx133_0
                  try clear hx147_0
                  try clear hx152_0
                  try clear p1
                  try clear p13
                  try clear p133
                  try clear p147
                  try clear p152
                  try clear p2
                  try clear q021
                  try clear q028
                  try clear q1
                  try clear q13
                  try clear q133
                  try clear q147
                  try clear q152
                  try clear q2
                  try clear q21
                  try clear q28
                  obtain ⟨kq, x70_36, rfl, HA, HJ36, HO_7, HO_8, HO_9, HO_21, HB⟩ := hcut
                  cases kq with
                  | zero => exact absurd HA.out (by simp [spec_values.j2])
                  | succ kj36 =>
                    have H := HA.out
                    clear HA
                    simp only [spec_values.j2] at H
                    by_cases c41 : x70_36 = true
                    · subst c41
                      have H1 : (some (([] : List ByteArray), false, 1)) = some (r1, r2, r3) := by rw [if_pos rfl] at H; exact H
                      clear H
                      have H := H1
                      clear H1
                      simp only [Option.some.injEq, Prod.mk.injEq] at H
                      obtain ⟨rfl, rfl, rfl⟩ := H
                      go_wp2
                      go_ret3
                      exact ⟨_, by first | rfl | (simp [errW_none, errW_some] <;> rfl) | (simp [*, errW_none, errW_some] <;> rfl), by first | exact Kd.R_nil _ _ _ _ _ | exact Kd.N_nil _ _ _ _ _ | exact Kd.V_nil _ _ _ _ _ | exact Kd.Q_nil _ _ _ _ _ | exact Kd.S_nil _ _ _ _ _, by repeat (first | (with_reducible first | exact HB.out | apply below_alloc | apply pw_below_drewN | apply below_drew1) | exact HB.out)⟩
                    · replace c41 := Bool.eq_false_iff.mpr c41
                      subst c41
                      have H1 : (if t134 = 1 then (if 0 ≤ x23_1 then (if x23_1 < (t130.length : Int) then (spec_values.j3 kj36 t126 t130 x9_1 x23_1 t134 t126 (t126.length : Int) x23_1 ((rdOf ByteArray.empty t130 x23_1).toList == ([] : List UInt8))) else (none)) else (none)) else (spec_values.j3 kj36 t126 t130 x9_1 x23_1 t134 t126 (t126.length : Int) x23_1 false)) = some (r1, r2, r3) := by rw [if_neg (show ¬ (false = true) by decide)] at H; exact H
                      clear H
                      have H := H1
                      clear H1
                      have HC42 := Aside0.mk H
                      clear H
                      go_upto_region 22 with (fail)
                      go_cut [81] (fun v81 wc => ∃ (kq : Nat) (x81_41 : Bool), v81 = .bool x81_41 ∧ Aside0 (spec_values.j3 kq t126 t130 x9_1 x23_1 t134 t126 (t126.length : Int) x23_1 x81_41 = some (r1, r2, r3)) ∧ Aside0 (kq ≤ kj36) ∧ Aside0 (Kd.R Kd.string 9 wc w.heap.size (fun k_ => some k_ ≠ ((.slice Ao38 t130.length co38) : Value).ownBlock ∧ some k_ ≠ (u9 : Value).ownBlock) (.slice (some ad133) t126.length co9) t126) ∧ Aside0 (Kd.R Kd.string 9 wc w.heap.size (fun k_ => some k_ ≠ ((.slice (some ad133) t126.length co9) : Value).ownBlock ∧ some k_ ≠ (u9 : Value).ownBlock ∧ some k_ ≠ ((.slice (some ad133) t126.length co9) : Value).ownBlock) (.slice Ao38 t130.length co38) t130) ∧ Aside0 (Kd.R Kd.string 9 wc w.heap.size (fun k_ => some k_ ≠ ((.slice (some ad133) t126.length co9) : Value).ownBlock ∧ some k_ ≠ ((.slice Ao38 t130.length co38) : Value).ownBlock ∧ some k_ ≠ ((.slice (some ad133) t126.length co9) : Value).ownBlock) u9 x9_1) ∧ Aside0 (Kd.R Kd.string 9 wc w.heap.size (fun k_ => some k_ ≠ ((.slice Ao38 t130.length co38) : Value).ownBlock ∧ some k_ ≠ (u9 : Value).ownBlock) (.slice (some ad133) t126.length co9) t126) ∧ Aside0 (Below w.heap.size w wc))
                      case first =>
                        have H := HC42.out
                        clear HC42
                        by_cases c43 : t134 = 1
                        · rw [if_pos c43] at H
                          have c43b0 : (t134 == 1) = true := beq_iff_eq.mpr c43
                          have c43b1 : (t134 != 1) = false := bne_eq_false_iff_eq.mpr c43
                          clear c43
                          (first | rw [c43b0] | (simp only [i64_w, i32_w]; rw [c43b0]) | skip)
                          by_cases c44 : 0 ≤ x23_1
                          · rw [if_pos c44] at H
                            have c44b0 : decide (0 ≤ x23_1) = true := decide_eq_true c44
                            clear c44
                            by_cases c45 : x23_1 < (t130.length : Int)
                            · rw [if_pos c45] at H
                              have c45b0 : decide (x23_1 < (t130.length : Int)) = true := decide_eq_true c45
                              clear c45
                              have H' := Aside0.mk H
                              clear H
                              have p153 : 0 ≤ (x23_1 : Int) := of_decide_eq_true (by first | (with_reducible assumption) | assumption)
                              have q153 : x23_1 < (t130.length : Int) := of_decide_eq_true (by first | (with_reducible assumption) | assumption)
                              obtain ⟨ad153, e153, hx153_0⟩ := Kd.at_string (Kd.R_reads' HO_8.out).2.2 x23_1 p153 q153
                              cases e153
                              replace p153 := eq_true p153
                              replace q153 := eq_true q153
                              go_wp2
                              go_meet
                              case rel => exact ⟨_, (((rdOf ByteArray.empty t130 x23_1).toList == ([] : List UInt8))), (by first | rfl | (simp; done) | (simp [*]; done)), H', ⟨by have := HK1.out; have := HJ36.out; first | omega | exact Nat.le_refl _⟩, ⟨by (with_reducible repeat (first | apply Kd.R_alloc | apply Kd.R_drewN | apply Kd.R_drew)); exact HO_7.out⟩, ⟨by (with_reducible repeat (first | apply Kd.R_alloc | apply Kd.R_drewN | apply Kd.R_drew)); exact HO_8.out⟩, ⟨by (with_reducible repeat (first | apply Kd.R_alloc | apply Kd.R_drewN | apply Kd.R_drew)); exact HO_9.out⟩, ⟨by (with_reducible repeat (first | apply Kd.R_alloc | apply Kd.R_drewN | apply Kd.R_drew)); exact HO_21.out⟩, ⟨by repeat (first | (with_reducible first | exact HB.out | apply below_alloc | apply pw_below_drewN | apply below_drew1) | exact HB.out)⟩⟩
                            · rw [if_neg c45] at H
                              exact absurd H (by simp)
                          · rw [if_neg c44] at H
                            exact absurd H (by simp)
                        · rw [if_neg c43] at H
                          have c43b0 : (t134 == 1) = false := beq_eq_false_iff_ne.mpr c43
                          have c43b1 : (t134 != 1) = true := bne_iff_ne.mpr c43
                          (first | rw [c43b0] | (simp only [i64_w, i32_w]; rw [c43b0]) | skip)
                          have H' := Aside0.mk H
                          clear H
                          go_wp2
                          go_meet
                          case rel => exact ⟨_, (false), (by first | rfl | (simp; done) | (simp [*]; done)), H', ⟨by have := HK1.out; have := HJ36.out; first | omega | exact Nat.le_refl _⟩, ⟨by (with_reducible repeat (first | apply Kd.R_alloc | apply Kd.R_drewN | apply Kd.R_drew)); exact HO_7.out⟩, ⟨by (with_reducible repeat (first | apply Kd.R_alloc | apply Kd.R_drewN | apply Kd.R_drew)); exact HO_8.out⟩, ⟨by (with_reducible repeat (first | apply Kd.R_alloc | apply Kd.R_drewN | apply Kd.R_drew)); exact HO_9.out⟩, ⟨by (with_reducible repeat (first | apply Kd.R_alloc | apply Kd.R_drewN | apply Kd.R_drew)); exact HO_21.out⟩, ⟨by repeat (first | (with_reducible first | exact HB.out | apply below_alloc | apply pw_below_drewN | apply below_drew1) | exact HB.out)⟩⟩
                      case rest =>
                        clear HC42
                        try clear c1
                        try clear p1
                        try clear q1
                        try clear hx1
                        try clear c2
                        try clear p2
                        try clear q2
                        try clear c3
                        try clear c4
                        try clear p6
                        try clear c10
                        try clear c10b0
                        try clear c11
                        try clear c11b0
                        try clear c12
                        try clear c12b0
                        try clear p13
                        try clear q13
                        try clear hx13
                        try clear c14
                        try clear c14b0
                        try clear c14b1
                        try clear p14
                        try clear q14
                        try clear hx14
                        try clear p15
                        try clear q15
                        try clear hx15
                        try clear c16
                        try clear c16b0
                        try clear c16b1
                        try clear c17
                        try clear c17b0
                        try clear c17b1
                        try clear c19
                        try clear c21
                        try clear q21
                        try clear c23
                        try clear c23b0
                        try clear c24
                        try clear c24b0
                        try clear c24b1
                        try clear c25
                        try clear c25b0
                        try clear c26
                        try clear c26b0
                        try clear c26b1
                        try clear c28
                        try clear q28
                        try clear c29
                        try clear c29b0
                        try clear c30
                        try clear c30b0
                        try clear c31
                        try clear c31b0
                        try clear c33
                        try clear c33b0
                        try clear c33b1
                        try clear c34
                        try clear c37
                        try clear c38
                        try clear c39
                        try clear c39b0
                        try clear c39b1
                        try clear c40
                        try clear c40b0
                        try clear c41
                        try clear c43
                        try clear c43b0
                        try clear c43b1
                        try clear c44
                        try clear c44b0
                        try clear c45
                        try clear c45b0
                        try clear hx133_0
                        try clear hx147_0
                        try clear hx152_0
                        try clear hx153_0
                        try clear p1
                        try clear p13
                        try clear p133
                        try clear p14
                        try clear p147
                        try clear p15
                        try clear p152
                        try clear p153
                        try clear p2
                        try clear p6
                        try clear q021
                        try clear q028
                        try clear q1
                        try clear q13
                        try clear q133
                        try clear q14
                        try clear q147
                        try clear q15
                        try clear q152
                        try clear q153
                        try clear q2
                        try clear q21
                        try clear q28
                        obtain ⟨kq, x81_41, rfl, HA, HJ41, HO_7, HO_8, HO_9, HO_21, HB⟩ := hcut
                        cases kq with
                        | zero => exact absurd HA.out (by simp [spec_values.j3])
                        | succ kj41 =>
                          have H := HA.out
                          clear HA
                          simp only [spec_values.j3] at H
                          by_cases c46 : x81_41 = true
                          · subst c46
                            have H1 : (some (([] : List ByteArray), false, 2)) = some (r1, r2, r3) := by rw [if_pos rfl] at H; exact H
                            clear H
                            have H := H1
                            clear H1
                            simp only [Option.some.injEq, Prod.mk.injEq] at H
                            obtain ⟨rfl, rfl, rfl⟩ := H
                            go_wp2
                            go_ret3
                            exact ⟨_, by first | rfl | (simp [errW_none, errW_some] <;> rfl) | (simp [*, errW_none, errW_some] <;> rfl), by first | exact Kd.R_nil _ _ _ _ _ | exact Kd.N_nil _ _ _ _ _ | exact Kd.V_nil _ _ _ _ _ | exact Kd.Q_nil _ _ _ _ _ | exact Kd.S_nil _ _ _ _ _, by repeat (first | (with_reducible first | exact HB.out | apply below_alloc | apply pw_below_drewN | apply below_drew1) | exact HB.out)⟩
                          · replace c46 := Bool.eq_false_iff.mpr c46
                            subst c46
                            have H1 : (if t134 = 1 then (if 0 ≤ x23_1 then (if x23_1 < (t130.length : Int) then (if x9_1.length < 8796093022208 then (spec_values.l0 kj41 t126 t130 (x9_1 ++ [rdOf ByteArray.empty t130 x23_1]) t126 (t126.length : Int) (wrap64 (x23_1 + 1))) else (none)) else (none)) else (none)) else (spec_values.l0 kj41 t126 t130 x9_1 t126 (t126.length : Int) (wrap64 (x23_1 + 1)))) = some (r1, r2, r3) := by rw [if_neg (show ¬ (false = true) by decide)] at H; exact H
                            clear H
                            have H := H1
                            clear H1
                            by_cases c47 : t134 = 1
                            · rw [if_pos c47] at H
                              have c47b0 : (t134 == 1) = true := beq_iff_eq.mpr c47
                              have c47b1 : (t134 != 1) = false := bne_eq_false_iff_eq.mpr c47
                              clear c47
                              by_cases c48 : 0 ≤ x23_1
                              · rw [if_pos c48] at H
                                have c48b0 : decide (0 ≤ x23_1) = true := decide_eq_true c48
                                clear c48
                                by_cases c49 : x23_1 < (t130.length : Int)
                                · rw [if_pos c49] at H
                                  have c49b0 : decide (x23_1 < (t130.length : Int)) = true := decide_eq_true c49
                                  clear c49
                                  by_cases c50 : x9_1.length < 8796093022208
                                  · rw [if_pos c50] at H
                                    have LMc50 := Aside0.mk c50
                                    clear c50
                                    obtain ⟨y155, hy155⟩ : ∃ y_ : List ByteArray, y_ = (x9_1 ++ [rdOf ByteArray.empty t130 x23_1]) := ⟨_, rfl⟩
                                    replace H : (spec_values.l0 kj41 t126 t130 y155 t126 (t126.length : Int) (wrap64 (x23_1 + 1))) = some (r1, r2, r3) := by first | (rw [hy155]; with_reducible exact H) | (have H2_ := (Option.bind_some _ _).symm.trans H; rw [hy155]; with_reducible exact H2_) | (have H2_ := (Option.bind_some _ _).symm.trans H; with_reducible exact H2_) | with_reducible exact H | (rw [hy155]; exact H) | exact H
                                    have Ny155 := Aside0.mk hy155
                                    clear hy155
                                    have H' := Aside0.mk H
                                    clear H
                                    have p154 : 0 ≤ (x23_1 : Int) := of_decide_eq_true (by first | (with_reducible assumption) | assumption)
                                    have q154 : x23_1 < (t130.length : Int) := of_decide_eq_true (by first | (with_reducible assumption) | assumption)
                                    obtain ⟨ad154, e154, hx154_0⟩ := Kd.at_string (Kd.R_reads' HO_8.out).2.2 x23_1 p154 q154
                                    cases e154
                                    replace p154 := eq_true p154
                                    replace q154 := eq_true q154
                                    go_wp2_with (first | ((with_reducible refine gate_builtin (b := .append) (xs := #[.tmp 94, .tmp 99]) rfl ?_); at_builtin; refine Kd.R_append Kd.string (w0 := w) w.heap.size rfl (.tmp 94) (.tmp 99) 22 9 (.string ⟨#[]⟩) 16 rfl Tryd.underlying22 info9 rfl (by decide) (by omega) u9 x9_1 (rdOf ByteArray.empty t130 x23_1) [.string (rdOf ByteArray.empty t130 x23_1)] (fun k_ => some k_ ≠ (.slice (some ad133) t126.length co9 : Value).ownBlock ∧ some k_ ≠ (.slice (some ad154) t130.length co38 : Value).ownBlock ∧ some k_ ≠ (.slice (some ad133) t126.length co9 : Value).ownBlock) (fun _ => False) rfl rfl ?aP (fun _ hk => hk.elim) ?aF ?aO ?aB ?aS ?aL ?_; (case aP => exact rfl); (case aB => exact (by repeat (first | (with_reducible first | exact HB.out | apply below_alloc | apply pw_below_drewN | apply below_drew1) | exact HB.out))); (case aF => exact (fun k_ hk => ⟨Kd.fresh' (Kd.R_lt (by (with_reducible repeat (first | apply Kd.R_alloc | apply Kd.R_drewN | apply Kd.R_drew)); exact HO_7.out)) k_ hk, Kd.fresh' (Kd.R_lt (by (with_reducible repeat (first | apply Kd.R_alloc | apply Kd.R_drewN | apply Kd.R_drew)); exact HO_8.out)) k_ hk, Kd.fresh' (Kd.R_lt (by (with_reducible repeat (first | apply Kd.R_alloc | apply Kd.R_drewN | apply Kd.R_drew)); exact HO_21.out)) k_ hk⟩)); (case aO => exact (by (with_reducible repeat (first | apply Kd.R_alloc | apply Kd.R_drewN | apply Kd.R_drew)); exact HO_9.out)); (case aS => exact (below_size (by repeat (first | (with_reducible first | exact HB.out | apply below_alloc | apply pw_below_drewN | apply below_drew1) | exact HB.out)))); (case aL => have := LMc50.out; omega); intro v156 w51 ho hb hg hat; rw [← Ny155.out] at ho; have n0_ := Aside0.mk (Kd.R_after (ok := (fun k_ => some k_ ≠ (.slice (some ad154) t130.length co38 : Value).ownBlock)) (by (with_reducible repeat (first | apply Kd.R_alloc | apply Kd.R_drewN | apply Kd.R_drew)); exact HO_7.out) hg hat); have n1_ := Aside0.mk (Kd.R_after (ok := (fun k_ => some k_ ≠ (.slice (some ad133) t126.length co9 : Value).ownBlock ∧ some k_ ≠ (.slice (some ad133) t126.length co9 : Value).ownBlock)) (by (with_reducible repeat (first | apply Kd.R_alloc | apply Kd.R_drewN | apply Kd.R_drew)); exact Kd.R_mono HO_8.out (fun _ hk => ⟨⟨hk.1, hk.2.2⟩, hk.2.1⟩)) hg hat); have n2_ := Aside0.mk (Kd.R_after (ok := (fun k_ => some k_ ≠ (.slice (some ad154) t130.length co38 : Value).ownBlock)) (by (with_reducible repeat (first | apply Kd.R_alloc | apply Kd.R_drewN | apply Kd.R_drew)); exact HO_21.out) hg hat); have n3_ := Aside0.mk (hb); have n4_ := Aside0.mk (ho); clear HO_7; clear HO_8; clear HO_21; clear HB; clear HO_9; have HO_7 := n0_; have HO_8 := n1_; have HO_21 := n2_; have HB := n3_; have HO157 := n4_; clear n0_ n1_ n2_ n3_ n4_; clear ho hb hg hat))
                                    go_roundg kj41
                                    case measure => have := HK1.out; have := HJ36.out; have := HJ41.out; omega
                                    case rel => exact ⟨(y155), (wrap64 (x23_1 + 1)), (by first | rfl | (simp; done) | (simp [*]; done)), H', ⟨by have := HK1.out; have := HJ36.out; have := HJ41.out; omega⟩, ⟨by (with_reducible repeat (first | apply Kd.R_alloc | apply Kd.R_drewN | apply Kd.R_drew)); exact HO_7.out⟩, ⟨by (with_reducible repeat (first | apply Kd.R_alloc | apply Kd.R_drewN | apply Kd.R_drew)); exact Kd.R_mono HO_8.out (fun _ hk => ⟨hk.1.1, ⟨hk.2, hk.1.2⟩⟩)⟩, ⟨by (with_reducible repeat (first | apply Kd.R_alloc | apply Kd.R_drewN | apply Kd.R_drew)); exact HO157.out⟩, ⟨by (with_reducible repeat (first | apply Kd.R_alloc | apply Kd.R_drewN | apply Kd.R_drew)); exact HO_21.out⟩, ⟨by repeat (first | (with_reducible first | exact HB.out | apply below_alloc | apply pw_below_drewN | apply below_drew1) | exact HB.out)⟩⟩
                                  · rw [if_neg c50] at H
                                    exact absurd H (by simp)
                                · rw [if_neg c49] at H
                                  exact absurd H (by simp)
                              · rw [if_neg c48] at H
                                exact absurd H (by simp)
                            · rw [if_neg c47] at H
                              have c47b0 : (t134 == 1) = false := beq_eq_false_iff_ne.mpr c47
                              have c47b1 : (t134 != 1) = true := bne_iff_ne.mpr c47
                              have H' := Aside0.mk H
                              clear H
                              go_wp2
                              go_roundg kj41
                              case measure => have := HK1.out; have := HJ36.out; have := HJ41.out; omega
                              case rel => exact ⟨(x9_1), (wrap64 (x23_1 + 1)), (by first | rfl | (simp; done) | (simp [*]; done)), H', ⟨by have := HK1.out; have := HJ36.out; have := HJ41.out; omega⟩, ⟨by (with_reducible repeat (first | apply Kd.R_alloc | apply Kd.R_drewN | apply Kd.R_drew)); exact HO_7.out⟩, ⟨by (with_reducible repeat (first | apply Kd.R_alloc | apply Kd.R_drewN | apply Kd.R_drew)); exact HO_8.out⟩, ⟨by (with_reducible repeat (first | apply Kd.R_alloc | apply Kd.R_drewN | apply Kd.R_drew)); exact HO_9.out⟩, ⟨by (with_reducible repeat (first | apply Kd.R_alloc | apply Kd.R_drewN | apply Kd.R_drew)); exact HO_21.out⟩, ⟨by repeat (first | (with_reducible first | exact HB.out | apply below_alloc | apply pw_below_drewN | apply below_drew1) | exact HB.out)⟩⟩
          · rw [if_neg c12] at H
            exact absurd H (by simp)
        · rw [if_neg c11] at H
          exact absurd H (by simp)
      · rw [if_neg c10] at H
        have c10b0 : decide (x23_1 < (t126.length : Int)) = false := decide_eq_false c10
        clear c10
        simp only [Option.some.injEq, Prod.mk.injEq] at H
        obtain ⟨rfl, rfl, rfl⟩ := H
        obtain ⟨Ao52, co52, eo52⟩ := Kd.R_slice HO_8.out
        subst eo52
        go_wp2
        go_ret3
        exact ⟨_, by first | rfl | (simp [errW_none, errW_some] <;> rfl) | (simp [*, errW_none, errW_some] <;> rfl), by (with_reducible repeat (first | apply Kd.R_alloc | apply Kd.R_drewN | apply Kd.R_drew)); exact Kd.R_mono HO_9.out (fun _ hk => trivial), by repeat (first | (with_reducible first | exact HB.out | apply below_alloc | apply pw_below_drewN | apply below_drew1) | exact HB.out)⟩

end Go.Proofs.YtpdnjgbcnnjdiaaDoor.PFnMatch
