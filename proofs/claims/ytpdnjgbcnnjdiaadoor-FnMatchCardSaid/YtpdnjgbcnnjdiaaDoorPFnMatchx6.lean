-- PRINTED BY print.sh 35421559b90ae4d0a3588c463048766b98c2df88dd9212a6774a882060cdf62d: not written by this session
import Derived.Test.YtpdnjgbcnnjdiaaDoorPFnMatchx0
import Derived.Test.YtpdnjgbcnnjdiaaDoorPFnMatchx3
import Derived.Test.YtpdnjgbcnnjdiaaDoorPFnMatchx4
namespace Go.Proofs.YtpdnjgbcnnjdiaaDoor.PFnMatch
open Go.RowKit Go.Proofs.YtpdnjgbcnnjdiaaDoorW.PrintWords Go.Proofs.YtpdnjgbcnnjdiaaDoorW.PrintLast Go.Proofs.YtpdnjgbcnnjdiaaDoorW.PrintMore
attribute [local go_sem] max2_int min2_int max_two min_two max_three min_three max_four min_four   -- for this text's walks alone
set_option linter.unusedVariables false
set_option linter.unusedSimpArgs false

/-! ### spec_ahead: function 30 -/
mutual
def spec_ahead.l0 : Nat → List ByteArray → List ByteArray → Int → Option (Bool)
  | 0, _, _, _ => none
  | k + 1, x5, x6, x7 => if x7 < (x5.length : Int) then (spec_ahead.j1 k x5 x6 x7 (decide (x7 < (x6.length : Int)))) else (spec_ahead.j1 k x5 x6 x7 false)
def spec_ahead.j1 : Nat → List ByteArray → List ByteArray → Int → Bool → Option (Bool)
  | 0, _, _, _, _ => none
  | k + 1, x5, x6, x7, x25 => if x25 = true then (if 0 ≤ x7 then (if x7 < (x5.length : Int) then ((spec_kindOfPart.f k (rdOf ByteArray.empty x5 x7)).bind fun t167 => (if x7 < (x6.length : Int) then ((spec_kindOfPart.f k (rdOf ByteArray.empty x6 x7)).bind fun t169 => (if t167 = t169 then (spec_ahead.l0 k x5 x6 (wrap64 (x7 + 1))) else (some (decide (t167 < t169))))) else (none))) else (none)) else (none)) else (some false)
end
def spec_ahead.f (k : Nat) (a0 : ByteArray) (a1 : ByteArray) : Option (Bool) := (spec_stripped.f a0).bind fun t158 => ((spec_parted.f k t158 47).bind fun t159 => ((spec_stripped.f a1).bind fun t162 => ((spec_parted.f k t162 47).bind fun t163 => (spec_ahead.l0 k t159 t163 0))))
theorem spec_ahead.mono_l : ∀ k, (∀ y0 y1 y2, LeO (spec_ahead.l0 k y0 y1 y2) (spec_ahead.l0 (k + 1) y0 y1 y2)) ∧ (∀ y0 y1 y2 y3, LeO (spec_ahead.j1 k y0 y1 y2 y3) (spec_ahead.j1 (k + 1) y0 y1 y2 y3))
  | 0 => ⟨fun _ _ _ r h => by simp [spec_ahead.l0] at h, fun _ _ _ _ r h => by simp [spec_ahead.j1] at h⟩
  | k + 1 => by
    obtain ⟨ih0, ih1⟩ := spec_ahead.mono_l k
    refine ⟨?_, ?_⟩
    · intro y0 y1 y2
      unfold spec_ahead.l0
      repeat' first
      | (with_reducible exact ih0 _ _ _)
      | (with_reducible exact ih1 _ _ _ _)
      | (with_reducible exact spec_kindOfPart.mono _ _)
      | (with_reducible exact spec_parted.mono _ _ _)
      | (with_reducible exact LeO.refl _)
      | (with_reducible exact LeO.none _)
      | (with_reducible refine LeO.ite ?_ ?_)
      | (with_reducible refine LeO.bind ?_ (fun _ => ?_))
      | exact ih0 _ _ _
      | exact ih1 _ _ _ _
      | exact spec_kindOfPart.mono _ _
      | exact spec_parted.mono _ _ _
      | exact LeO.none _
      | refine LeO.ite ?_ ?_
      | refine LeO.bind ?_ (fun _ => ?_)
    · intro y0 y1 y2 y3
      unfold spec_ahead.j1
      repeat' first
      | (with_reducible exact ih0 _ _ _)
      | (with_reducible exact ih1 _ _ _ _)
      | (with_reducible exact spec_kindOfPart.mono _ _)
      | (with_reducible exact spec_parted.mono _ _ _)
      | (with_reducible exact LeO.refl _)
      | (with_reducible exact LeO.none _)
      | (with_reducible refine LeO.ite ?_ ?_)
      | (with_reducible refine LeO.bind ?_ (fun _ => ?_))
      | exact ih0 _ _ _
      | exact ih1 _ _ _ _
      | exact spec_kindOfPart.mono _ _
      | exact spec_parted.mono _ _ _
      | exact LeO.none _
      | refine LeO.ite ?_ ?_
      | refine LeO.bind ?_ (fun _ => ?_)
theorem spec_ahead.mono : ∀ a0 a1 k, LeO (spec_ahead.f k a0 a1) (spec_ahead.f (k + 1) a0 a1) := by
  intro a0 a1 k
  obtain ⟨ih0, ih1⟩ := spec_ahead.mono_l k
  unfold spec_ahead.f
  repeat' first
      | (with_reducible exact ih0 _ _ _)
      | (with_reducible exact ih1 _ _ _ _)
      | (with_reducible exact spec_kindOfPart.mono _ _)
      | (with_reducible exact spec_parted.mono _ _ _)
      | (with_reducible exact LeO.refl _)
      | (with_reducible exact LeO.none _)
      | (with_reducible refine LeO.ite ?_ ?_)
      | (with_reducible refine LeO.bind ?_ (fun _ => ?_))
      | exact ih0 _ _ _
      | exact ih1 _ _ _ _
      | exact spec_kindOfPart.mono _ _
      | exact spec_parted.mono _ _ _
      | exact LeO.none _
      | refine LeO.ite ?_ ?_
      | refine LeO.bind ?_ (fun _ => ?_)
set_option maxHeartbeats 8000000 in
set_option maxRecDepth 100000 in
theorem spec_ahead.calls (k : Nat) (a0 : ByteArray) (a1 : ByteArray) (r : Bool) (w : World) (h : spec_ahead.f k a0 a1 = some r) :
    Calls Tryd.prog 30 #[.string a0, .string a1] w fun e w' => e = .returned (.bool r) ∧ Below w.heap.size w w' := by
  have HB := Aside0.mk (Below.refl w.heap.size w)
  have H : ((spec_stripped.f a0).bind fun t158 => ((spec_parted.f k t158 47).bind fun t159 => ((spec_stripped.f a1).bind fun t162 => ((spec_parted.f k t162 47).bind fun t163 => (spec_ahead.l0 k t159 t163 0))))) = some r := h
  clear h
  replace H := Option.bind_eq_some_iff.mp H
  obtain ⟨t158, A30, H⟩ := H
  replace H : ((spec_parted.f k t158 47).bind fun t159 => ((spec_stripped.f a1).bind fun t162 => ((spec_parted.f k t162 47).bind fun t163 => (spec_ahead.l0 k t159 t163 0)))) = some r := H
  have A3 := Aside0.mk A30
  clear A30
  replace H := Option.bind_eq_some_iff.mp H
  obtain ⟨t159, A40, H⟩ := H
  replace H : ((spec_stripped.f a1).bind fun t162 => ((spec_parted.f k t162 47).bind fun t163 => (spec_ahead.l0 k t159 t163 0))) = some r := H
  have A4 := Aside0.mk A40
  clear A40
  replace H := Option.bind_eq_some_iff.mp H
  obtain ⟨t162, A50, H⟩ := H
  replace H : ((spec_parted.f k t162 47).bind fun t163 => (spec_ahead.l0 k t159 t163 0)) = some r := H
  have A5 := Aside0.mk A50
  clear A50
  replace H := Option.bind_eq_some_iff.mp H
  obtain ⟨t163, A60, H⟩ := H
  replace H : (spec_ahead.l0 k t159 t163 0) = some r := H
  have A6 := Aside0.mk A60
  clear A60
  have H' := Aside0.mk H
  clear H
  go_enter Tryd.func30, Tryd.ntmps30
  go_wp2_with (first | (go_at_call 28; (with_reducible refine (spec_stripped.calls a0 t158 _ A3.out).mono ?_); rintro e w' ⟨rfl, ⟨nd, rfl⟩⟩; (try first | exact ⟨rfl, _, World.drewN_drewN _ _ _⟩ | exact ⟨rfl, _, Eq.trans (World.drewN_drewN _ _ _) (congrArg (World.drewN _) (Nat.add_assoc _ _ _))⟩)) | (go_at_call 37; (with_reducible refine (spec_parted.calls k t158 47 t159 _ A4.out).mono ?_); rintro e w7 ⟨v160, rfl, ho0, hb⟩; have n0_ := Aside0.mk (Kd.R_lower ho0 (below_size (by repeat (first | (with_reducible first | exact HB.out | apply below_alloc | apply pw_below_drewN | apply below_drew1) | exact HB.out)))); have n1_ := Aside0.mk (below_step (by repeat (first | (with_reducible first | exact HB.out | apply below_alloc | apply pw_below_drewN | apply below_drew1) | exact HB.out)) hb); clear HB; have HO161 := n0_; have HB := n1_; clear n0_ n1_; (try clear hb); (try clear hb2); (try clear hk); (try clear hi); (try clear ho0)) | (go_at_call 28; (with_reducible refine (spec_stripped.calls a1 t162 _ A5.out).mono ?_); rintro e w' ⟨rfl, ⟨nd, rfl⟩⟩; (try first | exact ⟨rfl, _, World.drewN_drewN _ _ _⟩ | exact ⟨rfl, _, Eq.trans (World.drewN_drewN _ _ _) (congrArg (World.drewN _) (Nat.add_assoc _ _ _))⟩)) | (go_at_call 37; (with_reducible refine (spec_parted.calls k t162 47 t163 _ A6.out).mono ?_); rintro e w8 ⟨v164, rfl, ho0, hb⟩; have n0_ := Aside0.mk (Kd.R_elder' (by (with_reducible repeat (first | apply Kd.R_alloc | apply Kd.R_drewN | apply Kd.R_drew)); exact HO161.out) (Kd.R_base ho0) hb); have n1_ := Aside0.mk (Kd.R_lower (Kd.R_new' ho0 (Kd.R_lt (by (with_reducible repeat (first | apply Kd.R_alloc | apply Kd.R_drewN | apply Kd.R_drew)); exact HO161.out))) (below_size (by repeat (first | (with_reducible first | exact HB.out | apply below_alloc | apply pw_below_drewN | apply below_drew1) | exact HB.out)))); have n2_ := Aside0.mk (below_step (by repeat (first | (with_reducible first | exact HB.out | apply below_alloc | apply pw_below_drewN | apply below_drew1) | exact HB.out)) hb); clear HO161; clear HB; have HO161 := n0_; have HO165 := n1_; have HB := n2_; clear n0_ n1_ n2_; (try clear hb); (try clear hb2); (try clear hk); (try clear hi); (try clear ho0)))
  repeat (go_quiet (first | (go_at_call 28; (with_reducible refine (spec_stripped.calls a0 t158 _ A3.out).mono ?_); rintro e w' ⟨rfl, ⟨nd, rfl⟩⟩; (try first | exact ⟨rfl, _, World.drewN_drewN _ _ _⟩ | exact ⟨rfl, _, Eq.trans (World.drewN_drewN _ _ _) (congrArg (World.drewN _) (Nat.add_assoc _ _ _))⟩)) | (go_at_call 37; (with_reducible refine (spec_parted.calls k t158 47 t159 _ A4.out).mono ?_); rintro e w7 ⟨v160, rfl, ho0, hb⟩; have n0_ := Aside0.mk (Kd.R_lower ho0 (below_size (by repeat (first | (with_reducible first | exact HB.out | apply below_alloc | apply pw_below_drewN | apply below_drew1) | exact HB.out)))); have n1_ := Aside0.mk (below_step (by repeat (first | (with_reducible first | exact HB.out | apply below_alloc | apply pw_below_drewN | apply below_drew1) | exact HB.out)) hb); clear HB; have HO161 := n0_; have HB := n1_; clear n0_ n1_; (try clear hb); (try clear hb2); (try clear hk); (try clear hi); (try clear ho0)) | (go_at_call 28; (with_reducible refine (spec_stripped.calls a1 t162 _ A5.out).mono ?_); rintro e w' ⟨rfl, ⟨nd, rfl⟩⟩; (try first | exact ⟨rfl, _, World.drewN_drewN _ _ _⟩ | exact ⟨rfl, _, Eq.trans (World.drewN_drewN _ _ _) (congrArg (World.drewN _) (Nat.add_assoc _ _ _))⟩)) | (go_at_call 37; (with_reducible refine (spec_parted.calls k t162 47 t163 _ A6.out).mono ?_); rintro e w8 ⟨v164, rfl, ho0, hb⟩; have n0_ := Aside0.mk (Kd.R_elder' (by (with_reducible repeat (first | apply Kd.R_alloc | apply Kd.R_drewN | apply Kd.R_drew)); exact HO161.out) (Kd.R_base ho0) hb); have n1_ := Aside0.mk (Kd.R_lower (Kd.R_new' ho0 (Kd.R_lt (by (with_reducible repeat (first | apply Kd.R_alloc | apply Kd.R_drewN | apply Kd.R_drew)); exact HO161.out))) (below_size (by repeat (first | (with_reducible first | exact HB.out | apply below_alloc | apply pw_below_drewN | apply below_drew1) | exact HB.out)))); have n2_ := Aside0.mk (below_step (by repeat (first | (with_reducible first | exact HB.out | apply below_alloc | apply pw_below_drewN | apply below_drew1) | exact HB.out)) hb); clear HO161; clear HB; have HO161 := n0_; have HO165 := n1_; have HB := n2_; clear n0_ n1_ n2_; (try clear hb); (try clear hb2); (try clear hk); (try clear hi); (try clear ho0))); try go_wp2_with (first | (go_at_call 28; (with_reducible refine (spec_stripped.calls a0 t158 _ A3.out).mono ?_); rintro e w' ⟨rfl, ⟨nd, rfl⟩⟩; (try first | exact ⟨rfl, _, World.drewN_drewN _ _ _⟩ | exact ⟨rfl, _, Eq.trans (World.drewN_drewN _ _ _) (congrArg (World.drewN _) (Nat.add_assoc _ _ _))⟩)) | (go_at_call 37; (with_reducible refine (spec_parted.calls k t158 47 t159 _ A4.out).mono ?_); rintro e w7 ⟨v160, rfl, ho0, hb⟩; have n0_ := Aside0.mk (Kd.R_lower ho0 (below_size (by repeat (first | (with_reducible first | exact HB.out | apply below_alloc | apply pw_below_drewN | apply below_drew1) | exact HB.out)))); have n1_ := Aside0.mk (below_step (by repeat (first | (with_reducible first | exact HB.out | apply below_alloc | apply pw_below_drewN | apply below_drew1) | exact HB.out)) hb); clear HB; have HO161 := n0_; have HB := n1_; clear n0_ n1_; (try clear hb); (try clear hb2); (try clear hk); (try clear hi); (try clear ho0)) | (go_at_call 28; (with_reducible refine (spec_stripped.calls a1 t162 _ A5.out).mono ?_); rintro e w' ⟨rfl, ⟨nd, rfl⟩⟩; (try first | exact ⟨rfl, _, World.drewN_drewN _ _ _⟩ | exact ⟨rfl, _, Eq.trans (World.drewN_drewN _ _ _) (congrArg (World.drewN _) (Nat.add_assoc _ _ _))⟩)) | (go_at_call 37; (with_reducible refine (spec_parted.calls k t162 47 t163 _ A6.out).mono ?_); rintro e w8 ⟨v164, rfl, ho0, hb⟩; have n0_ := Aside0.mk (Kd.R_elder' (by (with_reducible repeat (first | apply Kd.R_alloc | apply Kd.R_drewN | apply Kd.R_drew)); exact HO161.out) (Kd.R_base ho0) hb); have n1_ := Aside0.mk (Kd.R_lower (Kd.R_new' ho0 (Kd.R_lt (by (with_reducible repeat (first | apply Kd.R_alloc | apply Kd.R_drewN | apply Kd.R_drew)); exact HO161.out))) (below_size (by repeat (first | (with_reducible first | exact HB.out | apply below_alloc | apply pw_below_drewN | apply below_drew1) | exact HB.out)))); have n2_ := Aside0.mk (below_step (by repeat (first | (with_reducible first | exact HB.out | apply below_alloc | apply pw_below_drewN | apply below_drew1) | exact HB.out)) hb); clear HO161; clear HB; have HO161 := n0_; have HO165 := n1_; have HB := n2_; clear n0_ n1_ n2_; (try clear hb); (try clear hb2); (try clear hk); (try clear hi); (try clear ho0))))
  go_loopg [7] k (fun kq v7 w' => ∃ (x7_1 : Int), v7 = .int .i64 x7_1 ∧ Aside0 (spec_ahead.l0 kq t159 t163 x7_1 = some r) ∧ Aside0 (kq ≤ k) ∧ Aside0 (Kd.R Kd.string 9 w' w.heap.size (fun k_ => some k_ ≠ (v164 : Value).ownBlock) v160 t159) ∧ Aside0 (Kd.R Kd.string 9 w' w.heap.size (fun k_ => some k_ ≠ (v160 : Value).ownBlock) v164 t163) ∧ Aside0 (Below w.heap.size w w'))
  case atStart => exact ⟨(0), (by first | rfl | (simp; done) | (simp [*]; done)), H', ⟨Nat.le_refl _⟩, ⟨by (with_reducible repeat (first | apply Kd.R_alloc | apply Kd.R_drewN | apply Kd.R_drew)); exact Kd.R_mono HO161.out (fun _ hk => hk.2)⟩, ⟨by (with_reducible repeat (first | apply Kd.R_alloc | apply Kd.R_drewN | apply Kd.R_drew)); exact Kd.R_mono HO165.out (fun _ hk => hk.2)⟩, ⟨by repeat (first | (with_reducible first | exact HB.out | apply below_alloc | apply pw_below_drewN | apply below_drew1) | exact HB.out)⟩⟩
  case round =>
    clear H'
    try clear p2
    try clear c3
    obtain ⟨x7_1, rfl, HA, HK1, HO_5, HO_6, HB⟩ := hrel
    cases gk with
    | zero => exact absurd HA.out (by simp [spec_ahead.l0])
    | succ k1 =>
      have H := HA.out
      clear HA
      simp only [spec_ahead.l0] at H
      have HC9 := Aside0.mk H
      clear H
      go_upto_region 3 with (fail)
      repeat (go_quiet (fail); go_upto_region 3 with (fail))
      go_cut [25] (fun v25 wc => ∃ (kq : Nat) (x25_8 : Bool), v25 = .bool x25_8 ∧ Aside0 (spec_ahead.j1 kq t159 t163 x7_1 x25_8 = some r) ∧ Aside0 (kq ≤ k1) ∧ Aside0 (Kd.R Kd.string 9 wc w.heap.size (fun k_ => some k_ ≠ (v164 : Value).ownBlock) v160 t159) ∧ Aside0 (Kd.R Kd.string 9 wc w.heap.size (fun k_ => some k_ ≠ (v160 : Value).ownBlock) v164 t163) ∧ Aside0 (Below w.heap.size w wc))
      case first =>
        have H := HC9.out
        clear HC9
        by_cases c10 : x7_1 < (t159.length : Int)
        · rw [if_pos c10] at H
          have c10b0 : decide (x7_1 < (t159.length : Int)) = true := decide_eq_true c10
          clear c10
          (first | rw [c10b0] | (simp only [i64_w, i32_w]; rw [c10b0]) | skip)
          have H' := Aside0.mk H
          clear H
          obtain ⟨Ao11, co11, eo11⟩ := Kd.R_slice HO_5.out
          subst eo11
          obtain ⟨Ao12, co12, eo12⟩ := Kd.R_slice HO_6.out
          subst eo12
          go_wp2
          repeat (go_quiet (fail); try go_wp2)
          go_meet
          case rel => exact ⟨_, (decide (x7_1 < (t163.length : Int))), (by first | rfl | (simp; done) | (simp [*]; done)), H', ⟨by have := HK1.out; first | omega | exact Nat.le_refl _⟩, ⟨by (with_reducible repeat (first | apply Kd.R_alloc | apply Kd.R_drewN | apply Kd.R_drew)); exact HO_5.out⟩, ⟨by (with_reducible repeat (first | apply Kd.R_alloc | apply Kd.R_drewN | apply Kd.R_drew)); exact HO_6.out⟩, ⟨by repeat (first | (with_reducible first | exact HB.out | apply below_alloc | apply pw_below_drewN | apply below_drew1) | exact HB.out)⟩⟩
        · rw [if_neg c10] at H
          have c10b0 : decide (x7_1 < (t159.length : Int)) = false := decide_eq_false c10
          clear c10
          (first | rw [c10b0] | (simp only [i64_w, i32_w]; rw [c10b0]) | skip)
          have H' := Aside0.mk H
          clear H
          obtain ⟨Ao13, co13, eo13⟩ := Kd.R_slice HO_5.out
          subst eo13
          go_wp2
          repeat (go_quiet (fail); try go_wp2)
          go_meet
          case rel => exact ⟨_, (false), (by first | rfl | (simp; done) | (simp [*]; done)), H', ⟨by have := HK1.out; first | omega | exact Nat.le_refl _⟩, ⟨by (with_reducible repeat (first | apply Kd.R_alloc | apply Kd.R_drewN | apply Kd.R_drew)); exact HO_5.out⟩, ⟨by (with_reducible repeat (first | apply Kd.R_alloc | apply Kd.R_drewN | apply Kd.R_drew)); exact HO_6.out⟩, ⟨by repeat (first | (with_reducible first | exact HB.out | apply below_alloc | apply pw_below_drewN | apply below_drew1) | exact HB.out)⟩⟩
      case rest =>
        clear HC9
        try clear c1
        try clear p2
        try clear c3
        try clear c10
        try clear c10b0
        try clear p2
        obtain ⟨kq, x25_8, rfl, HA, HJ8, HO_5, HO_6, HB⟩ := hcut
        cases kq with
        | zero => exact absurd HA.out (by simp [spec_ahead.j1])
        | succ kj8 =>
          have H := HA.out
          clear HA
          simp only [spec_ahead.j1] at H
          by_cases c14 : x25_8 = true
          · subst c14
            have H1 : (if 0 ≤ x7_1 then (if x7_1 < (t159.length : Int) then ((spec_kindOfPart.f kj8 (rdOf ByteArray.empty t159 x7_1)).bind fun t167 => (if x7_1 < (t163.length : Int) then ((spec_kindOfPart.f kj8 (rdOf ByteArray.empty t163 x7_1)).bind fun t169 => (if t167 = t169 then (spec_ahead.l0 kj8 t159 t163 (wrap64 (x7_1 + 1))) else (some (decide (t167 < t169))))) else (none))) else (none)) else (none)) = some r := by rw [if_pos rfl] at H; exact H
            clear H
            have H := H1
            clear H1
            by_cases c15 : 0 ≤ x7_1
            · rw [if_pos c15] at H
              have c15b0 : decide (0 ≤ x7_1) = true := decide_eq_true c15
              clear c15
              by_cases c16 : x7_1 < (t159.length : Int)
              · rw [if_pos c16] at H
                have c16b0 : decide (x7_1 < (t159.length : Int)) = true := decide_eq_true c16
                clear c16
                replace H := Option.bind_eq_some_iff.mp H
                obtain ⟨t167, A170, H⟩ := H
                replace H : (if x7_1 < (t163.length : Int) then ((spec_kindOfPart.f kj8 (rdOf ByteArray.empty t163 x7_1)).bind fun t169 => (if t167 = t169 then (spec_ahead.l0 kj8 t159 t163 (wrap64 (x7_1 + 1))) else (some (decide (t167 < t169))))) else (none)) = some r := H
                have A17 := Aside0.mk A170
                clear A170
                by_cases c18 : x7_1 < (t163.length : Int)
                · rw [if_pos c18] at H
                  have c18b0 : decide (x7_1 < (t163.length : Int)) = true := decide_eq_true c18
                  clear c18
                  replace H := Option.bind_eq_some_iff.mp H
                  obtain ⟨t169, A190, H⟩ := H
                  replace H : (if t167 = t169 then (spec_ahead.l0 kj8 t159 t163 (wrap64 (x7_1 + 1))) else (some (decide (t167 < t169)))) = some r := H
                  have A19 := Aside0.mk A190
                  clear A190
                  by_cases c20 : t167 = t169
                  · rw [if_pos c20] at H
                    have c20b0 : (t167 == t169) = true := beq_iff_eq.mpr c20
                    have c20b1 : (t167 != t169) = false := bne_eq_false_iff_eq.mpr c20
                    clear c20
                    have H' := Aside0.mk H
                    clear H
                    obtain ⟨Ao21, co21, eo21⟩ := Kd.R_slice HO_5.out
                    subst eo21
                    have p166 : 0 ≤ (x7_1 : Int) := of_decide_eq_true (by first | (with_reducible assumption) | assumption)
                    have q166 : x7_1 < (t159.length : Int) := of_decide_eq_true (by first | (with_reducible assumption) | assumption)
                    obtain ⟨ad166, e166, hx166_0⟩ := Kd.at_string (Kd.R_reads' HO_5.out).2.2 x7_1 p166 q166
                    cases e166
                    replace p166 := eq_true p166
                    replace q166 := eq_true q166
                    go_wp2_with (first | (go_at_call 43; (with_reducible refine (spec_kindOfPart.calls kj8 (rdOf ByteArray.empty t159 x7_1) t167 _ A17.out).mono ?_); rintro e w' ⟨rfl, ⟨nd, rfl⟩⟩; (try first | exact ⟨rfl, _, World.drewN_drewN _ _ _⟩ | exact ⟨rfl, _, Eq.trans (World.drewN_drewN _ _ _) (congrArg (World.drewN _) (Nat.add_assoc _ _ _))⟩); obtain ⟨Ao22, co22, eo22⟩ := Kd.R_slice HO_6.out; subst eo22; have p168 : 0 ≤ (x7_1 : Int) := of_decide_eq_true (by first | (with_reducible assumption) | assumption); have q168 : x7_1 < (t163.length : Int) := of_decide_eq_true (by first | (with_reducible assumption) | assumption); obtain ⟨ad168, e168, hx168_0⟩ := Kd.at_string (Kd.R_reads' HO_6.out).2.2 x7_1 p168 q168; cases e168; replace p168 := eq_true p168; replace q168 := eq_true q168) | (go_at_call 43; (with_reducible refine (spec_kindOfPart.calls kj8 (rdOf ByteArray.empty t163 x7_1) t169 _ A19.out).mono ?_); rintro e w' ⟨rfl, ⟨nd, rfl⟩⟩; (try first | exact ⟨rfl, _, World.drewN_drewN _ _ _⟩ | exact ⟨rfl, _, Eq.trans (World.drewN_drewN _ _ _) (congrArg (World.drewN _) (Nat.add_assoc _ _ _))⟩)))
                    repeat (go_quiet (first | (go_at_call 43; (with_reducible refine (spec_kindOfPart.calls kj8 (rdOf ByteArray.empty t159 x7_1) t167 _ A17.out).mono ?_); rintro e w' ⟨rfl, ⟨nd, rfl⟩⟩; (try first | exact ⟨rfl, _, World.drewN_drewN _ _ _⟩ | exact ⟨rfl, _, Eq.trans (World.drewN_drewN _ _ _) (congrArg (World.drewN _) (Nat.add_assoc _ _ _))⟩); obtain ⟨Ao22, co22, eo22⟩ := Kd.R_slice HO_6.out; subst eo22; have p168 : 0 ≤ (x7_1 : Int) := of_decide_eq_true (by first | (with_reducible assumption) | assumption); have q168 : x7_1 < (t163.length : Int) := of_decide_eq_true (by first | (with_reducible assumption) | assumption); obtain ⟨ad168, e168, hx168_0⟩ := Kd.at_string (Kd.R_reads' HO_6.out).2.2 x7_1 p168 q168; cases e168; replace p168 := eq_true p168; replace q168 := eq_true q168) | (go_at_call 43; (with_reducible refine (spec_kindOfPart.calls kj8 (rdOf ByteArray.empty t163 x7_1) t169 _ A19.out).mono ?_); rintro e w' ⟨rfl, ⟨nd, rfl⟩⟩; (try first | exact ⟨rfl, _, World.drewN_drewN _ _ _⟩ | exact ⟨rfl, _, Eq.trans (World.drewN_drewN _ _ _) (congrArg (World.drewN _) (Nat.add_assoc _ _ _))⟩))); try go_wp2_with (first | (go_at_call 43; (with_reducible refine (spec_kindOfPart.calls kj8 (rdOf ByteArray.empty t159 x7_1) t167 _ A17.out).mono ?_); rintro e w' ⟨rfl, ⟨nd, rfl⟩⟩; (try first | exact ⟨rfl, _, World.drewN_drewN _ _ _⟩ | exact ⟨rfl, _, Eq.trans (World.drewN_drewN _ _ _) (congrArg (World.drewN _) (Nat.add_assoc _ _ _))⟩); obtain ⟨Ao22, co22, eo22⟩ := Kd.R_slice HO_6.out; subst eo22; have p168 : 0 ≤ (x7_1 : Int) := of_decide_eq_true (by first | (with_reducible assumption) | assumption); have q168 : x7_1 < (t163.length : Int) := of_decide_eq_true (by first | (with_reducible assumption) | assumption); obtain ⟨ad168, e168, hx168_0⟩ := Kd.at_string (Kd.R_reads' HO_6.out).2.2 x7_1 p168 q168; cases e168; replace p168 := eq_true p168; replace q168 := eq_true q168) | (go_at_call 43; (with_reducible refine (spec_kindOfPart.calls kj8 (rdOf ByteArray.empty t163 x7_1) t169 _ A19.out).mono ?_); rintro e w' ⟨rfl, ⟨nd, rfl⟩⟩; (try first | exact ⟨rfl, _, World.drewN_drewN _ _ _⟩ | exact ⟨rfl, _, Eq.trans (World.drewN_drewN _ _ _) (congrArg (World.drewN _) (Nat.add_assoc _ _ _))⟩))))
                    go_roundg kj8
                    case measure => have := HK1.out; have := HJ8.out; omega
                    case rel => exact ⟨(wrap64 (x7_1 + 1)), (by first | rfl | (simp; done) | (simp [*]; done)), H', ⟨by have := HK1.out; have := HJ8.out; omega⟩, ⟨by (with_reducible repeat (first | apply Kd.R_alloc | apply Kd.R_drewN | apply Kd.R_drew)); exact HO_5.out⟩, ⟨by (with_reducible repeat (first | apply Kd.R_alloc | apply Kd.R_drewN | apply Kd.R_drew)); exact HO_6.out⟩, ⟨by repeat (first | (with_reducible first | exact HB.out | apply below_alloc | apply pw_below_drewN | apply below_drew1) | exact HB.out)⟩⟩
                  · rw [if_neg c20] at H
                    have c20b0 : (t167 == t169) = false := beq_eq_false_iff_ne.mpr c20
                    have c20b1 : (t167 != t169) = true := bne_iff_ne.mpr c20
                    obtain rfl := Option.some.inj H
                    obtain ⟨Ao23, co23, eo23⟩ := Kd.R_slice HO_5.out
                    subst eo23
                    have p166 : 0 ≤ (x7_1 : Int) := of_decide_eq_true (by first | (with_reducible assumption) | assumption)
                    have q166 : x7_1 < (t159.length : Int) := of_decide_eq_true (by first | (with_reducible assumption) | assumption)
                    obtain ⟨ad166, e166, hx166_0⟩ := Kd.at_string (Kd.R_reads' HO_5.out).2.2 x7_1 p166 q166
                    cases e166
                    replace p166 := eq_true p166
                    replace q166 := eq_true q166
                    go_wp2_with (first | (go_at_call 43; (with_reducible refine (spec_kindOfPart.calls kj8 (rdOf ByteArray.empty t159 x7_1) t167 _ A17.out).mono ?_); rintro e w' ⟨rfl, ⟨nd, rfl⟩⟩; (try first | exact ⟨rfl, _, World.drewN_drewN _ _ _⟩ | exact ⟨rfl, _, Eq.trans (World.drewN_drewN _ _ _) (congrArg (World.drewN _) (Nat.add_assoc _ _ _))⟩); obtain ⟨Ao24, co24, eo24⟩ := Kd.R_slice HO_6.out; subst eo24; have p168 : 0 ≤ (x7_1 : Int) := of_decide_eq_true (by first | (with_reducible assumption) | assumption); have q168 : x7_1 < (t163.length : Int) := of_decide_eq_true (by first | (with_reducible assumption) | assumption); obtain ⟨ad168, e168, hx168_0⟩ := Kd.at_string (Kd.R_reads' HO_6.out).2.2 x7_1 p168 q168; cases e168; replace p168 := eq_true p168; replace q168 := eq_true q168) | (go_at_call 43; (with_reducible refine (spec_kindOfPart.calls kj8 (rdOf ByteArray.empty t163 x7_1) t169 _ A19.out).mono ?_); rintro e w' ⟨rfl, ⟨nd, rfl⟩⟩; (try first | exact ⟨rfl, _, World.drewN_drewN _ _ _⟩ | exact ⟨rfl, _, Eq.trans (World.drewN_drewN _ _ _) (congrArg (World.drewN _) (Nat.add_assoc _ _ _))⟩)))
                    repeat (go_quiet (first | (go_at_call 43; (with_reducible refine (spec_kindOfPart.calls kj8 (rdOf ByteArray.empty t159 x7_1) t167 _ A17.out).mono ?_); rintro e w' ⟨rfl, ⟨nd, rfl⟩⟩; (try first | exact ⟨rfl, _, World.drewN_drewN _ _ _⟩ | exact ⟨rfl, _, Eq.trans (World.drewN_drewN _ _ _) (congrArg (World.drewN _) (Nat.add_assoc _ _ _))⟩); obtain ⟨Ao24, co24, eo24⟩ := Kd.R_slice HO_6.out; subst eo24; have p168 : 0 ≤ (x7_1 : Int) := of_decide_eq_true (by first | (with_reducible assumption) | assumption); have q168 : x7_1 < (t163.length : Int) := of_decide_eq_true (by first | (with_reducible assumption) | assumption); obtain ⟨ad168, e168, hx168_0⟩ := Kd.at_string (Kd.R_reads' HO_6.out).2.2 x7_1 p168 q168; cases e168; replace p168 := eq_true p168; replace q168 := eq_true q168) | (go_at_call 43; (with_reducible refine (spec_kindOfPart.calls kj8 (rdOf ByteArray.empty t163 x7_1) t169 _ A19.out).mono ?_); rintro e w' ⟨rfl, ⟨nd, rfl⟩⟩; (try first | exact ⟨rfl, _, World.drewN_drewN _ _ _⟩ | exact ⟨rfl, _, Eq.trans (World.drewN_drewN _ _ _) (congrArg (World.drewN _) (Nat.add_assoc _ _ _))⟩))); try go_wp2_with (first | (go_at_call 43; (with_reducible refine (spec_kindOfPart.calls kj8 (rdOf ByteArray.empty t159 x7_1) t167 _ A17.out).mono ?_); rintro e w' ⟨rfl, ⟨nd, rfl⟩⟩; (try first | exact ⟨rfl, _, World.drewN_drewN _ _ _⟩ | exact ⟨rfl, _, Eq.trans (World.drewN_drewN _ _ _) (congrArg (World.drewN _) (Nat.add_assoc _ _ _))⟩); obtain ⟨Ao24, co24, eo24⟩ := Kd.R_slice HO_6.out; subst eo24; have p168 : 0 ≤ (x7_1 : Int) := of_decide_eq_true (by first | (with_reducible assumption) | assumption); have q168 : x7_1 < (t163.length : Int) := of_decide_eq_true (by first | (with_reducible assumption) | assumption); obtain ⟨ad168, e168, hx168_0⟩ := Kd.at_string (Kd.R_reads' HO_6.out).2.2 x7_1 p168 q168; cases e168; replace p168 := eq_true p168; replace q168 := eq_true q168) | (go_at_call 43; (with_reducible refine (spec_kindOfPart.calls kj8 (rdOf ByteArray.empty t163 x7_1) t169 _ A19.out).mono ?_); rintro e w' ⟨rfl, ⟨nd, rfl⟩⟩; (try first | exact ⟨rfl, _, World.drewN_drewN _ _ _⟩ | exact ⟨rfl, _, Eq.trans (World.drewN_drewN _ _ _) (congrArg (World.drewN _) (Nat.add_assoc _ _ _))⟩))))
                    go_ret
                    exact ⟨by first | rfl | (simp [errW_none, errW_some] <;> rfl) | (simp [*, errW_none, errW_some] <;> rfl), by repeat (first | (with_reducible first | exact HB.out | apply below_alloc | apply pw_below_drewN | apply below_drew1) | exact HB.out)⟩
                · rw [if_neg c18] at H
                  exact absurd H (by simp)
              · rw [if_neg c16] at H
                exact absurd H (by simp)
            · rw [if_neg c15] at H
              exact absurd H (by simp)
          · replace c14 := Bool.eq_false_iff.mpr c14
            subst c14
            have H1 : (some false) = some r := by rw [if_neg (show ¬ (false = true) by decide)] at H; exact H
            clear H
            have H := H1
            clear H1
            obtain rfl := Option.some.inj H
            go_wp2
            repeat (go_quiet (fail); try go_wp2)
            go_ret
            exact ⟨by first | rfl | (simp [errW_none, errW_some] <;> rfl) | (simp [*, errW_none, errW_some] <;> rfl), by repeat (first | (with_reducible first | exact HB.out | apply below_alloc | apply pw_below_drewN | apply below_drew1) | exact HB.out)⟩

end Go.Proofs.YtpdnjgbcnnjdiaaDoor.PFnMatch
