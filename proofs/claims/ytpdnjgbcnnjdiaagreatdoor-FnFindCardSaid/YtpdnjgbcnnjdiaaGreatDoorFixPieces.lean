/- spec.pieces: as print.sh printed it, turned by wip/fixfind.py where it fell. -/
import Derived.Test.YtpdnjgbcnnjdiaaGreatDoorPFnFindx0
import Derived.Test.YtpdnjgbcnnjdiaaGreatDoorPFnFindx1
namespace Go.Proofs.YtpdnjgbcnnjdiaaGreatDoor.PFnFind
open Go.RowKit Go.Proofs.YtpdnjgbcnnjdiaaGreatDoorW.PrintWords Go.Proofs.YtpdnjgbcnnjdiaaGreatDoorW.PrintLast Go.Proofs.YtpdnjgbcnnjdiaaGreatDoorW.PrintMore
attribute [local go_sem] max2_int min2_int max_two min_two max_three min_three max_four min_four   -- for this text's walks alone
set_option linter.unusedVariables false
set_option linter.unusedSimpArgs false

/-! ### spec_pieces: function 10 -/
mutual
def spec_pieces.l0 : Nat → ByteArray → List (S45) → Int → Int → Option ((List (S45)) × Int)
  | 0, _, _, _, _ => none
  | k + 1, x0, x4, x5, x6 => if x6 < (x0.size : Int) then (if 0 ≤ x6 then (if (bt x0 x6) = 125 then (some (([] : List (S45)), 2)) else (if (bt x0 x6) = 123 then (if x6 > x5 then (if 0 ≤ x5 then (if x5 ≤ x6 then (if x6 ≤ (x0.size : Int) then (if x4.length < 5864062014805 then (spec_pieces.j1 k x0 (x4 ++ [(⟨x0.extract (x5 : Int).toNat (x6 : Int).toNat, 0⟩ : S45)]) x6) else (none)) else (none)) else (none)) else (none)) else (spec_pieces.j1 k x0 x4 x6)) else (spec_pieces.l0 k x0 x4 x5 (wrap64 (x6 + 1))))) else (none)) else (if x5 < (x0.size : Int) then (if 0 ≤ x5 then (if x5 ≤ (x0.size : Int) then (if x4.length < 5864062014805 then (some ((x4 ++ [(⟨x0.extract (x5 : Int).toNat x0.size, 0⟩ : S45)]), 1)) else (none)) else (none)) else (none)) else (some (x4, 1)))
def spec_pieces.j1 : Nat → ByteArray → List (S45) → Int → Option ((List (S45)) × Int)
  | 0, _, _, _ => none
  | k + 1, x0, x4, x6 => spec_pieces.l1 k x0 x4 x6 (wrap64 (x6 + 1))
def spec_pieces.j3 : Nat → ByteArray → List (S45) → Int → Int → Option ((List (S45)) × Int)
  | 0, _, _, _, _ => none
  | k + 1, x0, x4, x6, x7 => if x7 = (x0.size : Int) then (spec_pieces.j4 k x0 x4 x6 x7 true) else (if 0 ≤ x7 then (if x7 < (x0.size : Int) then (if (bt x0 x7) = 125 then (if x6 = 0 then (spec_pieces.j4 k x0 x4 x6 x7 true) else (if 0 ≤ (wrap64 (x6 - 1)) then (if (wrap64 (x6 - 1)) < (x0.size : Int) then (if (bt x0 (wrap64 (x6 - 1))) = 47 then (if (wrap64 (x7 + 1)) < (x0.size : Int) then (if 0 ≤ (wrap64 (x7 + 1)) then (spec_pieces.j4 k x0 x4 x6 x7 ((bt x0 (wrap64 (x7 + 1))) != 47)) else (none)) else (spec_pieces.j4 k x0 x4 x6 x7 false)) else (spec_pieces.j4 k x0 x4 x6 x7 true)) else (none)) else (none))) else (spec_pieces.j4 k x0 x4 x6 x7 true)) else (none)) else (none))
def spec_pieces.j4 : Nat → ByteArray → List (S45) → Int → Int → Bool → Option ((List (S45)) × Int)
  | 0, _, _, _, _, _ => none
  | k + 1, x0, x4, x6, x7, x90 => if x90 = true then (some (([] : List (S45)), 2)) else (if 0 ≤ (wrap64 (x6 + 1)) then (if (wrap64 (x6 + 1)) ≤ x7 then (if x7 ≤ (x0.size : Int) then (if (x0.extract ((wrap64 (x6 + 1)) : Int).toNat (x7 : Int).toNat).toList = ([] : List UInt8) then (spec_pieces.j5 k x0 x4 x7 (x0.extract ((wrap64 (x6 + 1)) : Int).toNat (x7 : Int).toNat) 1 false) else (if 0 ≤ (wrap64 (((x0.extract ((wrap64 (x6 + 1)) : Int).toNat (x7 : Int).toNat).size : Int) - 1)) then (if (wrap64 (((x0.extract ((wrap64 (x6 + 1)) : Int).toNat (x7 : Int).toNat).size : Int) - 1)) < ((x0.extract ((wrap64 (x6 + 1)) : Int).toNat (x7 : Int).toNat).size : Int) then (spec_pieces.j5 k x0 x4 x7 (x0.extract ((wrap64 (x6 + 1)) : Int).toNat (x7 : Int).toNat) 1 ((bt (x0.extract ((wrap64 (x6 + 1)) : Int).toNat (x7 : Int).toNat) (wrap64 (((x0.extract ((wrap64 (x6 + 1)) : Int).toNat (x7 : Int).toNat).size : Int) - 1))) == 42)) else (none)) else (none))) else (none)) else (none)) else (none))
def spec_pieces.j5 : Nat → ByteArray → List (S45) → Int → ByteArray → Int → Bool → Option ((List (S45)) × Int)
  | 0, _, _, _, _, _, _ => none
  | k + 1, x0, x4, x7, x8, x9, x105 => if x105 = true then (if 0 ≤ (wrap64 ((x8.size : Int) - 1)) then (if (wrap64 ((x8.size : Int) - 1)) ≤ (x8.size : Int) then (spec_pieces.j6 k x0 x4 x7 (x8.extract 0 ((wrap64 ((x8.size : Int) - 1)) : Int).toNat) 2) else (none)) else (none)) else (spec_pieces.j6 k x0 x4 x7 x8 x9)
def spec_pieces.j6 : Nat → ByteArray → List (S45) → Int → ByteArray → Int → Option ((List (S45)) × Int)
  | 0, _, _, _, _, _ => none
  | k + 1, x0, x4, x7, x8, x9 => spec_pieces.l2 k x0 x4 x7 x8 x9 (x8.size : Int) 0
def spec_pieces.l2 : Nat → ByteArray → List (S45) → Int → ByteArray → Int → Int → Int → Option ((List (S45)) × Int)
  | 0, _, _, _, _, _, _, _ => none
  | k + 1, x0, x4, x7, x8, x9, x112, x113 => if x113 < x112 then (if 0 ≤ x113 then (if x113 < (x8.size : Int) then ((spec_word.f (bt x8 x113)).bind fun t111 => (if t111 = true then (spec_pieces.l2 k x0 x4 x7 x8 x9 x112 (wrap64 (x113 + 1))) else (some (([] : List (S45)), 2)))) else (none)) else (none)) else (if x8.toList = ([] : List UInt8) then (some (([] : List (S45)), 2)) else (if x9 = 2 then (if (wrap64 (x7 + 1)) < (x0.size : Int) then (some (([] : List (S45)), 2)) else (if x4.length < 5864062014805 then (spec_pieces.l0 k x0 (x4 ++ [(⟨x8, x9⟩ : S45)]) (wrap64 (x7 + 1)) (wrap64 (x7 + 1))) else (none))) else (if x4.length < 5864062014805 then (spec_pieces.l0 k x0 (x4 ++ [(⟨x8, x9⟩ : S45)]) (wrap64 (x7 + 1)) (wrap64 (x7 + 1))) else (none))))
def spec_pieces.l1 : Nat → ByteArray → List (S45) → Int → Int → Option ((List (S45)) × Int)
  | 0, _, _, _, _ => none
  | k + 1, x0, x4, x6, x7 => if x7 < (x0.size : Int) then (if 0 ≤ x7 then ((spec_word.f (bt x0 x7)).bind fun t110 => (if t110 = true then (spec_pieces.l1 k x0 x4 x6 (wrap64 (x7 + 1))) else (if (bt x0 x7) = 42 then (spec_pieces.l1 k x0 x4 x6 (wrap64 (x7 + 1))) else (spec_pieces.j3 k x0 x4 x6 x7)))) else (none)) else (spec_pieces.j3 k x0 x4 x6 x7)
end
def spec_pieces.f (k : Nat) (a0 : ByteArray) : Option ((List (S45)) × Int) := spec_pieces.l0 k a0 ([] : List (S45)) 0 0
theorem spec_pieces.mono_l : ∀ k, (∀ y0 y1 y2 y3, LeO (spec_pieces.l0 k y0 y1 y2 y3) (spec_pieces.l0 (k + 1) y0 y1 y2 y3)) ∧ (∀ y0 y1 y2, LeO (spec_pieces.j1 k y0 y1 y2) (spec_pieces.j1 (k + 1) y0 y1 y2)) ∧ (∀ y0 y1 y2 y3, LeO (spec_pieces.j3 k y0 y1 y2 y3) (spec_pieces.j3 (k + 1) y0 y1 y2 y3)) ∧ (∀ y0 y1 y2 y3 y4, LeO (spec_pieces.j4 k y0 y1 y2 y3 y4) (spec_pieces.j4 (k + 1) y0 y1 y2 y3 y4)) ∧ (∀ y0 y1 y2 y3 y4 y5, LeO (spec_pieces.j5 k y0 y1 y2 y3 y4 y5) (spec_pieces.j5 (k + 1) y0 y1 y2 y3 y4 y5)) ∧ (∀ y0 y1 y2 y3 y4, LeO (spec_pieces.j6 k y0 y1 y2 y3 y4) (spec_pieces.j6 (k + 1) y0 y1 y2 y3 y4)) ∧ (∀ y0 y1 y2 y3 y4 y5 y6, LeO (spec_pieces.l2 k y0 y1 y2 y3 y4 y5 y6) (spec_pieces.l2 (k + 1) y0 y1 y2 y3 y4 y5 y6)) ∧ (∀ y0 y1 y2 y3, LeO (spec_pieces.l1 k y0 y1 y2 y3) (spec_pieces.l1 (k + 1) y0 y1 y2 y3))
  | 0 => ⟨fun _ _ _ _ r h => by simp [spec_pieces.l0] at h, fun _ _ _ r h => by simp [spec_pieces.j1] at h, fun _ _ _ _ r h => by simp [spec_pieces.j3] at h, fun _ _ _ _ _ r h => by simp [spec_pieces.j4] at h, fun _ _ _ _ _ _ r h => by simp [spec_pieces.j5] at h, fun _ _ _ _ _ r h => by simp [spec_pieces.j6] at h, fun _ _ _ _ _ _ _ r h => by simp [spec_pieces.l2] at h, fun _ _ _ _ r h => by simp [spec_pieces.l1] at h⟩
  | k + 1 => by
    obtain ⟨ih0, ih1, ih2, ih3, ih4, ih5, ih6, ih7⟩ := spec_pieces.mono_l k
    refine ⟨?_, ?_, ?_, ?_, ?_, ?_, ?_, ?_⟩
    · intro y0 y1 y2 y3
      unfold spec_pieces.l0
      repeat' first
      | (with_reducible exact ih0 _ _ _ _)
      | (with_reducible exact ih1 _ _ _)
      | (with_reducible exact ih2 _ _ _ _)
      | (with_reducible exact ih3 _ _ _ _ _)
      | (with_reducible exact ih4 _ _ _ _ _ _)
      | (with_reducible exact ih5 _ _ _ _ _)
      | (with_reducible exact ih6 _ _ _ _ _ _ _)
      | (with_reducible exact ih7 _ _ _ _)
      | (with_reducible exact LeO.refl _)
      | (with_reducible exact LeO.none _)
      | (with_reducible refine LeO.ite ?_ ?_)
      | (with_reducible refine LeO.bind ?_ (fun _ => ?_))
      | exact ih0 _ _ _ _
      | exact ih1 _ _ _
      | exact ih2 _ _ _ _
      | exact ih3 _ _ _ _ _
      | exact ih4 _ _ _ _ _ _
      | exact ih5 _ _ _ _ _
      | exact ih6 _ _ _ _ _ _ _
      | exact ih7 _ _ _ _
      | exact LeO.none _
      | refine LeO.ite ?_ ?_
      | refine LeO.bind ?_ (fun _ => ?_)
    · intro y0 y1 y2
      unfold spec_pieces.j1
      repeat' first
      | (with_reducible exact ih0 _ _ _ _)
      | (with_reducible exact ih1 _ _ _)
      | (with_reducible exact ih2 _ _ _ _)
      | (with_reducible exact ih3 _ _ _ _ _)
      | (with_reducible exact ih4 _ _ _ _ _ _)
      | (with_reducible exact ih5 _ _ _ _ _)
      | (with_reducible exact ih6 _ _ _ _ _ _ _)
      | (with_reducible exact ih7 _ _ _ _)
      | (with_reducible exact LeO.refl _)
      | (with_reducible exact LeO.none _)
      | (with_reducible refine LeO.ite ?_ ?_)
      | (with_reducible refine LeO.bind ?_ (fun _ => ?_))
      | exact ih0 _ _ _ _
      | exact ih1 _ _ _
      | exact ih2 _ _ _ _
      | exact ih3 _ _ _ _ _
      | exact ih4 _ _ _ _ _ _
      | exact ih5 _ _ _ _ _
      | exact ih6 _ _ _ _ _ _ _
      | exact ih7 _ _ _ _
      | exact LeO.none _
      | refine LeO.ite ?_ ?_
      | refine LeO.bind ?_ (fun _ => ?_)
    · intro y0 y1 y2 y3
      unfold spec_pieces.j3
      repeat' first
      | (with_reducible exact ih0 _ _ _ _)
      | (with_reducible exact ih1 _ _ _)
      | (with_reducible exact ih2 _ _ _ _)
      | (with_reducible exact ih3 _ _ _ _ _)
      | (with_reducible exact ih4 _ _ _ _ _ _)
      | (with_reducible exact ih5 _ _ _ _ _)
      | (with_reducible exact ih6 _ _ _ _ _ _ _)
      | (with_reducible exact ih7 _ _ _ _)
      | (with_reducible exact LeO.refl _)
      | (with_reducible exact LeO.none _)
      | (with_reducible refine LeO.ite ?_ ?_)
      | (with_reducible refine LeO.bind ?_ (fun _ => ?_))
      | exact ih0 _ _ _ _
      | exact ih1 _ _ _
      | exact ih2 _ _ _ _
      | exact ih3 _ _ _ _ _
      | exact ih4 _ _ _ _ _ _
      | exact ih5 _ _ _ _ _
      | exact ih6 _ _ _ _ _ _ _
      | exact ih7 _ _ _ _
      | exact LeO.none _
      | refine LeO.ite ?_ ?_
      | refine LeO.bind ?_ (fun _ => ?_)
    · intro y0 y1 y2 y3 y4
      unfold spec_pieces.j4
      repeat' first
      | (with_reducible exact ih0 _ _ _ _)
      | (with_reducible exact ih1 _ _ _)
      | (with_reducible exact ih2 _ _ _ _)
      | (with_reducible exact ih3 _ _ _ _ _)
      | (with_reducible exact ih4 _ _ _ _ _ _)
      | (with_reducible exact ih5 _ _ _ _ _)
      | (with_reducible exact ih6 _ _ _ _ _ _ _)
      | (with_reducible exact ih7 _ _ _ _)
      | (with_reducible exact LeO.refl _)
      | (with_reducible exact LeO.none _)
      | (with_reducible refine LeO.ite ?_ ?_)
      | (with_reducible refine LeO.bind ?_ (fun _ => ?_))
      | exact ih0 _ _ _ _
      | exact ih1 _ _ _
      | exact ih2 _ _ _ _
      | exact ih3 _ _ _ _ _
      | exact ih4 _ _ _ _ _ _
      | exact ih5 _ _ _ _ _
      | exact ih6 _ _ _ _ _ _ _
      | exact ih7 _ _ _ _
      | exact LeO.none _
      | refine LeO.ite ?_ ?_
      | refine LeO.bind ?_ (fun _ => ?_)
    · intro y0 y1 y2 y3 y4 y5
      unfold spec_pieces.j5
      repeat' first
      | (with_reducible exact ih0 _ _ _ _)
      | (with_reducible exact ih1 _ _ _)
      | (with_reducible exact ih2 _ _ _ _)
      | (with_reducible exact ih3 _ _ _ _ _)
      | (with_reducible exact ih4 _ _ _ _ _ _)
      | (with_reducible exact ih5 _ _ _ _ _)
      | (with_reducible exact ih6 _ _ _ _ _ _ _)
      | (with_reducible exact ih7 _ _ _ _)
      | (with_reducible exact LeO.refl _)
      | (with_reducible exact LeO.none _)
      | (with_reducible refine LeO.ite ?_ ?_)
      | (with_reducible refine LeO.bind ?_ (fun _ => ?_))
      | exact ih0 _ _ _ _
      | exact ih1 _ _ _
      | exact ih2 _ _ _ _
      | exact ih3 _ _ _ _ _
      | exact ih4 _ _ _ _ _ _
      | exact ih5 _ _ _ _ _
      | exact ih6 _ _ _ _ _ _ _
      | exact ih7 _ _ _ _
      | exact LeO.none _
      | refine LeO.ite ?_ ?_
      | refine LeO.bind ?_ (fun _ => ?_)
    · intro y0 y1 y2 y3 y4
      unfold spec_pieces.j6
      repeat' first
      | (with_reducible exact ih0 _ _ _ _)
      | (with_reducible exact ih1 _ _ _)
      | (with_reducible exact ih2 _ _ _ _)
      | (with_reducible exact ih3 _ _ _ _ _)
      | (with_reducible exact ih4 _ _ _ _ _ _)
      | (with_reducible exact ih5 _ _ _ _ _)
      | (with_reducible exact ih6 _ _ _ _ _ _ _)
      | (with_reducible exact ih7 _ _ _ _)
      | (with_reducible exact LeO.refl _)
      | (with_reducible exact LeO.none _)
      | (with_reducible refine LeO.ite ?_ ?_)
      | (with_reducible refine LeO.bind ?_ (fun _ => ?_))
      | exact ih0 _ _ _ _
      | exact ih1 _ _ _
      | exact ih2 _ _ _ _
      | exact ih3 _ _ _ _ _
      | exact ih4 _ _ _ _ _ _
      | exact ih5 _ _ _ _ _
      | exact ih6 _ _ _ _ _ _ _
      | exact ih7 _ _ _ _
      | exact LeO.none _
      | refine LeO.ite ?_ ?_
      | refine LeO.bind ?_ (fun _ => ?_)
    · intro y0 y1 y2 y3 y4 y5 y6
      unfold spec_pieces.l2
      repeat' first
      | (with_reducible exact ih0 _ _ _ _)
      | (with_reducible exact ih1 _ _ _)
      | (with_reducible exact ih2 _ _ _ _)
      | (with_reducible exact ih3 _ _ _ _ _)
      | (with_reducible exact ih4 _ _ _ _ _ _)
      | (with_reducible exact ih5 _ _ _ _ _)
      | (with_reducible exact ih6 _ _ _ _ _ _ _)
      | (with_reducible exact ih7 _ _ _ _)
      | (with_reducible exact LeO.refl _)
      | (with_reducible exact LeO.none _)
      | (with_reducible refine LeO.ite ?_ ?_)
      | (with_reducible refine LeO.bind ?_ (fun _ => ?_))
      | exact ih0 _ _ _ _
      | exact ih1 _ _ _
      | exact ih2 _ _ _ _
      | exact ih3 _ _ _ _ _
      | exact ih4 _ _ _ _ _ _
      | exact ih5 _ _ _ _ _
      | exact ih6 _ _ _ _ _ _ _
      | exact ih7 _ _ _ _
      | exact LeO.none _
      | refine LeO.ite ?_ ?_
      | refine LeO.bind ?_ (fun _ => ?_)
    · intro y0 y1 y2 y3
      unfold spec_pieces.l1
      repeat' first
      | (with_reducible exact ih0 _ _ _ _)
      | (with_reducible exact ih1 _ _ _)
      | (with_reducible exact ih2 _ _ _ _)
      | (with_reducible exact ih3 _ _ _ _ _)
      | (with_reducible exact ih4 _ _ _ _ _ _)
      | (with_reducible exact ih5 _ _ _ _ _)
      | (with_reducible exact ih6 _ _ _ _ _ _ _)
      | (with_reducible exact ih7 _ _ _ _)
      | (with_reducible exact LeO.refl _)
      | (with_reducible exact LeO.none _)
      | (with_reducible refine LeO.ite ?_ ?_)
      | (with_reducible refine LeO.bind ?_ (fun _ => ?_))
      | exact ih0 _ _ _ _
      | exact ih1 _ _ _
      | exact ih2 _ _ _ _
      | exact ih3 _ _ _ _ _
      | exact ih4 _ _ _ _ _ _
      | exact ih5 _ _ _ _ _
      | exact ih6 _ _ _ _ _ _ _
      | exact ih7 _ _ _ _
      | exact LeO.none _
      | refine LeO.ite ?_ ?_
      | refine LeO.bind ?_ (fun _ => ?_)
theorem spec_pieces.mono : ∀ a0 k, LeO (spec_pieces.f k a0) (spec_pieces.f (k + 1) a0) := by
  intro a0 k
  obtain ⟨ih0, ih1, ih2, ih3, ih4, ih5, ih6, ih7⟩ := spec_pieces.mono_l k
  unfold spec_pieces.f
  repeat' first
      | (with_reducible exact ih0 _ _ _ _)
      | (with_reducible exact ih1 _ _ _)
      | (with_reducible exact ih2 _ _ _ _)
      | (with_reducible exact ih3 _ _ _ _ _)
      | (with_reducible exact ih4 _ _ _ _ _ _)
      | (with_reducible exact ih5 _ _ _ _ _)
      | (with_reducible exact ih6 _ _ _ _ _ _ _)
      | (with_reducible exact ih7 _ _ _ _)
      | (with_reducible exact LeO.refl _)
      | (with_reducible exact LeO.none _)
      | (with_reducible refine LeO.ite ?_ ?_)
      | (with_reducible refine LeO.bind ?_ (fun _ => ?_))
      | exact ih0 _ _ _ _
      | exact ih1 _ _ _
      | exact ih2 _ _ _ _
      | exact ih3 _ _ _ _ _
      | exact ih4 _ _ _ _ _ _
      | exact ih5 _ _ _ _ _
      | exact ih6 _ _ _ _ _ _ _
      | exact ih7 _ _ _ _
      | exact LeO.none _
      | refine LeO.ite ?_ ?_
      | refine LeO.bind ?_ (fun _ => ?_)
set_option maxHeartbeats 8000000 in
set_option maxRecDepth 100000 in
theorem spec_pieces.calls (k : Nat) (a0 : ByteArray) (r1 : List (S45)) (r2 : Int) (w : World) (h : spec_pieces.f k a0 = some (r1, r2)) :
    Calls Tryz.prog 10 #[.string a0] w fun e w' => ∃ v0_ : Value, e = .returned (.tuple #[v0_, .int .i64 r2]) ∧ Kd.R k45 45 w' w.heap.size (fun _ => True) v0_ r1 ∧ Below w.heap.size w w' := by
  have hu45 := Tryz.underlying45
  have HB := Aside0.mk (Below.refl w.heap.size w)
  have H : (spec_pieces.l0 k a0 ([] : List (S45)) 0 0) = some (r1, r2) := h
  clear h
  have H' := Aside0.mk H
  clear H
  go_enter Tryz.func10, Tryz.ntmps10
  go_wp2
  go_loopg [4, 5, 6] k (fun kq v4 v5 v6 w' => ∃ (x4_1 : List (S45)) (x5_1 : Int) (x6_1 : Int), v5 = .int .i64 x5_1 ∧ v6 = .int .i64 x6_1 ∧ Aside0 (spec_pieces.l0 kq a0 x4_1 x5_1 x6_1 = some (r1, r2)) ∧ Aside0 (kq ≤ k) ∧ Aside0 (Kd.R k45 45 w' w.heap.size (fun _ => True) v4 x4_1) ∧ Aside0 (Below w.heap.size w w'))
  case atStart => exact ⟨(([] : List (S45))), (0), (0), (by first | rfl | (simp; done) | (simp [*]; done)), (by first | rfl | (simp; done) | (simp [*]; done)), H', ⟨Nat.le_refl _⟩, ⟨by first | exact Kd.R_nil _ _ _ _ _ | exact Kd.N_nil _ _ _ _ _ | exact Kd.V_nil _ _ _ _ _ | exact Kd.Q_nil _ _ _ _ _ | exact Kd.S_nil _ _ _ _ _⟩, ⟨by repeat (first | (with_reducible first | exact HB.out | apply below_alloc | apply pw_below_drewN | apply below_drew1) | exact HB.out)⟩⟩
  case round =>
    clear H'
    try clear c1
    obtain ⟨x4_1, x5_1, x6_1, rfl, rfl, HA, HK1, HO_4, HB⟩ := hrel
    cases gk with
    | zero => exact absurd HA.out (by simp [spec_pieces.l0])
    | succ k1 =>
      have H := HA.out
      clear HA
      simp only [spec_pieces.l0] at H
      by_cases c2 : x6_1 < (a0.size : Int)
      · rw [if_pos c2] at H
        have c2b0 : decide (x6_1 < (a0.size : Int)) = true := decide_eq_true c2
        clear c2
        by_cases c3 : 0 ≤ x6_1
        · rw [if_pos c3] at H
          have c3b0 : decide (0 ≤ x6_1) = true := decide_eq_true c3
          clear c3
          by_cases c5 : (bt a0 x6_1) = 125
          · rw [if_pos c5] at H
            have c5b0 : ((bt a0 x6_1) == 125) = true := beq_iff_eq.mpr c5
            have c5b1 : ((bt a0 x6_1) != 125) = false := bne_eq_false_iff_eq.mpr c5
            clear c5
            simp only [Option.some.injEq, Prod.mk.injEq] at H
            obtain ⟨rfl, rfl⟩ := H
            have p4 : 0 ≤ (x6_1 : Int) := of_decide_eq_true (by first | (with_reducible assumption) | assumption)
            have q4 : x6_1 < (a0.size : Int) := of_decide_eq_true (by first | (with_reducible assumption) | assumption)
            have hx4 := bt_at a0 x6_1
            replace p4 := eq_true p4
            replace q4 := eq_true q4
            go_wp2
            go_ret2
            exact ⟨_, by first | rfl | (simp [errW_none, errW_some] <;> rfl) | (simp [*, errW_none, errW_some] <;> rfl), by first | exact Kd.R_nil _ _ _ _ _ | exact Kd.N_nil _ _ _ _ _ | exact Kd.V_nil _ _ _ _ _ | exact Kd.Q_nil _ _ _ _ _ | exact Kd.S_nil _ _ _ _ _, by repeat (first | (with_reducible first | exact HB.out | apply below_alloc | apply pw_below_drewN | apply below_drew1) | exact HB.out)⟩
          · rw [if_neg c5] at H
            have c5b0 : ((bt a0 x6_1) == 125) = false := beq_eq_false_iff_ne.mpr c5
            have c5b1 : ((bt a0 x6_1) != 125) = true := bne_iff_ne.mpr c5
            by_cases c7 : (bt a0 x6_1) = 123
            · rw [if_pos c7] at H
              have c7b0 : ((bt a0 x6_1) == 123) = true := beq_iff_eq.mpr c7
              have c7b1 : ((bt a0 x6_1) != 123) = false := bne_eq_false_iff_eq.mpr c7
              clear c7
              have HC8 := Aside0.mk H
              clear H
              have p4 : 0 ≤ (x6_1 : Int) := of_decide_eq_true (by first | (with_reducible assumption) | assumption)
              have q4 : x6_1 < (a0.size : Int) := of_decide_eq_true (by first | (with_reducible assumption) | assumption)
              have hx4 := bt_at a0 x6_1
              replace p4 := eq_true p4
              replace q4 := eq_true q4
              have p6 : 0 ≤ (x6_1 : Int) := of_decide_eq_true (by first | (with_reducible assumption) | assumption)
              have q6 : x6_1 < (a0.size : Int) := of_decide_eq_true (by first | (with_reducible assumption) | assumption)
              have hx6 := bt_at a0 x6_1
              replace p6 := eq_true p6
              replace q6 := eq_true q6
              go_upto_if 27 with (fail)
              go_cut [4] (fun v4 wc => ∃ (kq : Nat) (x4_7 : List (S45)), Aside0 (spec_pieces.j1 kq a0 x4_7 x6_1 = some (r1, r2)) ∧ Aside0 (kq ≤ k1) ∧ Aside0 (Kd.R k45 45 wc w.heap.size (fun _ => True) v4 x4_7) ∧ Aside0 (Below w.heap.size w wc))
              case first =>
                have H := HC8.out
                clear HC8
                by_cases c9 : x6_1 > x5_1
                · rw [if_pos c9] at H
                  have c9b0 : decide (x5_1 < x6_1) = true := decide_eq_true c9
                  clear c9
                  (first | rw [c9b0] | (simp only [i64_w, i32_w]; rw [c9b0]) | skip)
                  by_cases c10 : 0 ≤ x5_1
                  · rw [if_pos c10] at H
                    have c10b0 := eq_true c10
                    have c10b1 : decide (0 ≤ x5_1) = true := decide_eq_true c10
                    clear c10
                    by_cases c11 : x5_1 ≤ x6_1
                    · rw [if_pos c11] at H
                      have c11b0 := eq_true c11
                      have c11b1 : decide (x5_1 ≤ x6_1) = true := decide_eq_true c11
                      clear c11
                      by_cases c12 : x6_1 ≤ (a0.size : Int)
                      · rw [if_pos c12] at H
                        have c12b0 := eq_true c12
                        have c12b1 : decide (x6_1 ≤ (a0.size : Int)) = true := decide_eq_true c12
                        clear c12
                        by_cases c13 : x4_1.length < 5864062014805
                        · rw [if_pos c13] at H
                          have LMc13 := Aside0.mk c13
                          clear c13
                          obtain ⟨y107, hy107⟩ : ∃ y_ : List (S45), y_ = (x4_1 ++ [(⟨a0.extract (x5_1 : Int).toNat (x6_1 : Int).toNat, 0⟩ : S45)]) := ⟨_, rfl⟩
                          replace H : (spec_pieces.j1 k1 a0 y107 x6_1) = some (r1, r2) := by first | (rw [hy107]; with_reducible exact H) | (have H2_ := (Option.bind_some _ _).symm.trans H; rw [hy107]; with_reducible exact H2_) | (have H2_ := (Option.bind_some _ _).symm.trans H; with_reducible exact H2_) | with_reducible exact H | (rw [hy107]; exact H) | exact H
                          have Ny107 := Aside0.mk hy107
                          clear hy107
                          have H' := Aside0.mk H
                          clear H
                          go_wp2_with (first | ((with_reducible refine gate_builtin (b := .append) (xs := #[.tmp 28, .tmp 34]) rfl ?_); (try (refine gate_guard (by rfl) ?_; dsimp only)); at_builtin; refine Kd.R_append k45 (w0 := w) w.heap.size rfl (.tmp 28) (.tmp 34) 31 45 (.agg #[(.string ⟨#[]⟩), (.int .i64 0)]) 24 rfl Tryz.underlying31 info45 rfl (by decide) (by omega) u4 x4_1 (⟨a0.extract (x5_1 : Int).toNat (x6_1 : Int).toNat, 0⟩ : S45) [.string (a0.extract (x5_1 : Int).toNat (x6_1 : Int).toNat), .int .i64 0] (fun _ => True) (fun _ => False) rfl rfl ?aP (fun _ hk => hk.elim) ?aF ?aO ?aB ?aS ?aL ?_; (case aP => exact k45_mkM _ _ _ (⟨a0.extract (x5_1 : Int).toNat (x6_1 : Int).toNat, 0⟩ : S45)); (case aB => exact (by repeat (first | (with_reducible first | exact HB.out | apply below_alloc | apply pw_below_drewN | apply below_drew1) | exact HB.out))); (case aF => exact (fun _ _ => trivial)); (case aO => exact (by (with_reducible repeat (first | apply Kd.R_alloc | apply Kd.R_drewN | apply Kd.R_drew)); exact HO_4.out)); (case aS => exact (below_size (by repeat (first | (with_reducible first | exact HB.out | apply below_alloc | apply pw_below_drewN | apply below_drew1) | exact HB.out)))); (case aL => have := LMc13.out; omega); intro v108 w14 ho hb hg hat; rw [← Ny107.out] at ho; have n0_ := Aside0.mk (hb); have n1_ := Aside0.mk (ho); clear HB; clear HO_4; have HB := n0_; have HO109 := n1_; clear n0_ n1_; clear ho hb hg hat))
                          go_meet
                          case rel => exact ⟨_, (y107), H', ⟨by have := HK1.out; first | omega | exact Nat.le_refl _⟩, ⟨by (with_reducible repeat (first | apply Kd.R_alloc | apply Kd.R_drewN | apply Kd.R_drew)); exact HO109.out⟩, ⟨by repeat (first | (with_reducible first | exact HB.out | apply below_alloc | apply pw_below_drewN | apply below_drew1) | exact HB.out)⟩⟩
                        · rw [if_neg c13] at H
                          exact absurd H (by simp)
                      · rw [if_neg c12] at H
                        exact absurd H (by simp)
                    · rw [if_neg c11] at H
                      exact absurd H (by simp)
                  · rw [if_neg c10] at H
                    exact absurd H (by simp)
                · rw [if_neg c9] at H
                  have c9b0 : decide (x5_1 < x6_1) = false := decide_eq_false c9
                  clear c9
                  (first | rw [c9b0] | (simp only [i64_w, i32_w]; rw [c9b0]) | skip)
                  have H' := Aside0.mk H
                  clear H
                  go_wp2
                  go_meet
                  case rel => exact ⟨_, (x4_1), H', ⟨by have := HK1.out; first | omega | exact Nat.le_refl _⟩, ⟨by (with_reducible repeat (first | apply Kd.R_alloc | apply Kd.R_drewN | apply Kd.R_drew)); exact HO_4.out⟩, ⟨by repeat (first | (with_reducible first | exact HB.out | apply below_alloc | apply pw_below_drewN | apply below_drew1) | exact HB.out)⟩⟩
              case rest =>
                clear HC8
                try clear c1
                try clear c2
                try clear c2b0
                try clear p2
                try clear c3
                try clear c3b0
                try clear p4
                try clear q4
                try clear hx4
                try clear c5
                try clear c5b0
                try clear c5b1
                try clear p6
                try clear q6
                try clear hx6
                try clear c7
                try clear c7b0
                try clear c7b1
                try clear c9
                try clear c9b0
                try clear c10
                try clear c10b0
                try clear c10b1
                try clear c11
                try clear c11b0
                try clear c11b1
                try clear c12
                try clear c12b0
                try clear c12b1
                try clear c13
                try clear p4
                try clear p6
                try clear q4
                try clear q6
                obtain ⟨kq, x4_7, HA, HJ7, HO_4, HB⟩ := hcut
                cases kq with
                | zero => exact absurd HA.out (by simp [spec_pieces.j1])
                | succ kj7 =>
                  have H := HA.out
                  clear HA
                  simp only [spec_pieces.j1] at H
                  have HC15 := Aside0.mk H
                  clear H
                  go_upto_block 2 with (fail)
                  go_cut [7] (fun v7 wc => ∃ (kq : Nat) (x7_14 : Int), v7 = .int .i64 x7_14 ∧ Aside0 (spec_pieces.j3 kq a0 x4_7 x6_1 x7_14 = some (r1, r2)) ∧ Aside0 (kq ≤ kj7) ∧ Aside0 (Kd.R k45 45 wc w.heap.size (fun _ => True) u4 x4_7) ∧ Aside0 (Below w.heap.size w wc))
                  case first =>
                    have H := HC15.out
                    clear HC15
                    have H' := Aside0.mk H
                    clear H
                    go_wp2
                    go_loopg [7] kj7 (fun kq v7 w' => ∃ (x7_3 : Int), v7 = .int .i64 x7_3 ∧ Aside0 (spec_pieces.l1 kq a0 x4_7 x6_1 x7_3 = some (r1, r2)) ∧ Aside0 (kq ≤ kj7) ∧ Aside0 (Kd.R k45 45 w' w.heap.size (fun _ => True) u4 x4_7) ∧ Aside0 (Below w.heap.size w w'))
                    case atStart => exact ⟨(wrap64 (x6_1 + 1)), (by first | rfl | (simp; done) | (simp [*]; done)), H', ⟨Nat.le_refl _⟩, ⟨by (with_reducible repeat (first | apply Kd.R_alloc | apply Kd.R_drewN | apply Kd.R_drew)); exact HO_4.out⟩, ⟨by repeat (first | (with_reducible first | exact HB.out | apply below_alloc | apply pw_below_drewN | apply below_drew1) | exact HB.out)⟩⟩
                    case round =>
                      clear H'
                      try clear c1
                      try clear c2
                      try clear c2b0
                      try clear p2
                      try clear c3
                      try clear c3b0
                      try clear p4
                      try clear q4
                      try clear hx4
                      try clear c5
                      try clear c5b0
                      try clear c5b1
                      try clear p6
                      try clear q6
                      try clear hx6
                      try clear c7
                      try clear c7b0
                      try clear c7b1
                      try clear c9
                      try clear c9b0
                      try clear c10
                      try clear c10b0
                      try clear c10b1
                      try clear c11
                      try clear c11b0
                      try clear c11b1
                      try clear c12
                      try clear c12b0
                      try clear c12b1
                      try clear c13
                      try clear p2
                      try clear p4
                      try clear p6
                      try clear q4
                      try clear q6
                      obtain ⟨x7_3, rfl, HA, HK3, HO_4, HB⟩ := hrel
                      cases gk with
                      | zero => exact absurd HA.out (by simp [spec_pieces.l1])
                      | succ k3 =>
                        have H := HA.out
                        clear HA
                        simp only [spec_pieces.l1] at H
                        by_cases c16 : x7_3 < (a0.size : Int)
                        · rw [if_pos c16] at H
                          have c16b0 : decide (x7_3 < (a0.size : Int)) = true := decide_eq_true c16
                          clear c16
                          (first | rw [c16b0] | (simp only [i64_w, i32_w]; rw [c16b0]) | skip)
                          by_cases c17 : 0 ≤ x7_3
                          · rw [if_pos c17] at H
                            have c17b0 : decide (0 ≤ x7_3) = true := decide_eq_true c17
                            clear c17
                            replace H := Option.bind_eq_some_iff.mp H
                            obtain ⟨t110, A190, H⟩ := H
                            replace H : (if t110 = true then (spec_pieces.l1 k3 a0 x4_7 x6_1 (wrap64 (x7_3 + 1))) else (if (bt a0 x7_3) = 42 then (spec_pieces.l1 k3 a0 x4_7 x6_1 (wrap64 (x7_3 + 1))) else (spec_pieces.j3 k3 a0 x4_7 x6_1 x7_3))) = some (r1, r2) := H
                            have A19 := Aside0.mk A190
                            clear A190
                            by_cases c20 : t110 = true
                            · subst c20
                              have H1 : (spec_pieces.l1 k3 a0 x4_7 x6_1 (wrap64 (x7_3 + 1))) = some (r1, r2) := by rw [if_pos rfl] at H; exact H
                              clear H
                              have H := H1
                              clear H1
                              have H' := Aside0.mk H
                              clear H
                              have p18 : 0 ≤ (x7_3 : Int) := of_decide_eq_true (by first | (with_reducible assumption) | assumption)
                              have q18 : x7_3 < (a0.size : Int) := of_decide_eq_true (by first | (with_reducible assumption) | assumption)
                              have hx18 := bt_at a0 x7_3
                              replace p18 := eq_true p18
                              replace q18 := eq_true q18
                              go_wp2_with (first | (go_at_call 17; (with_reducible refine (spec_word.calls (bt a0 x7_3) true _ A19.out).mono ?_); rintro e w' ⟨rfl, ⟨nd, rfl⟩⟩))
                              go_roundg k3
                              case measure => have := HK1.out; have := HJ7.out; have := HK3.out; omega
                              case rel => exact ⟨(wrap64 (x7_3 + 1)), (by first | rfl | (simp; done) | (simp [*]; done)), H', ⟨by have := HK1.out; have := HJ7.out; have := HK3.out; omega⟩, ⟨by (with_reducible repeat (first | apply Kd.R_alloc | apply Kd.R_drewN | apply Kd.R_drew)); exact HO_4.out⟩, ⟨by repeat (first | (with_reducible first | exact HB.out | apply below_alloc | apply pw_below_drewN | apply below_drew1) | exact HB.out)⟩⟩
                            · replace c20 := Bool.eq_false_iff.mpr c20
                              subst c20
                              have H1 : (if (bt a0 x7_3) = 42 then (spec_pieces.l1 k3 a0 x4_7 x6_1 (wrap64 (x7_3 + 1))) else (spec_pieces.j3 k3 a0 x4_7 x6_1 x7_3)) = some (r1, r2) := by rw [if_neg (show ¬ (false = true) by decide)] at H; exact H
                              clear H
                              have H := H1
                              clear H1
                              by_cases c22 : (bt a0 x7_3) = 42
                              · rw [if_pos c22] at H
                                have c22b0 : ((bt a0 x7_3) == 42) = true := beq_iff_eq.mpr c22
                                have c22b1 : ((bt a0 x7_3) != 42) = false := bne_eq_false_iff_eq.mpr c22
                                clear c22
                                have H' := Aside0.mk H
                                clear H
                                have p18 : 0 ≤ (x7_3 : Int) := of_decide_eq_true (by first | (with_reducible assumption) | assumption)
                                have q18 : x7_3 < (a0.size : Int) := of_decide_eq_true (by first | (with_reducible assumption) | assumption)
                                have hx18 := bt_at a0 x7_3
                                replace p18 := eq_true p18
                                replace q18 := eq_true q18
                                go_wp2_with (first | (go_at_call 17; (with_reducible refine (spec_word.calls (bt a0 x7_3) false _ A19.out).mono ?_); rintro e w' ⟨rfl, ⟨nd, rfl⟩⟩; have p21 : 0 ≤ (x7_3 : Int) := of_decide_eq_true (by first | (with_reducible assumption) | assumption); have q21 : x7_3 < (a0.size : Int) := of_decide_eq_true (by first | (with_reducible assumption) | assumption); have hx21 := bt_at a0 x7_3; replace p21 := eq_true p21; replace q21 := eq_true q21))
                                go_roundg k3
                                case measure => have := HK1.out; have := HJ7.out; have := HK3.out; omega
                                case rel => exact ⟨(wrap64 (x7_3 + 1)), (by first | rfl | (simp; done) | (simp [*]; done)), H', ⟨by have := HK1.out; have := HJ7.out; have := HK3.out; omega⟩, ⟨by (with_reducible repeat (first | apply Kd.R_alloc | apply Kd.R_drewN | apply Kd.R_drew)); exact HO_4.out⟩, ⟨by repeat (first | (with_reducible first | exact HB.out | apply below_alloc | apply pw_below_drewN | apply below_drew1) | exact HB.out)⟩⟩
                              · rw [if_neg c22] at H
                                have c22b0 : ((bt a0 x7_3) == 42) = false := beq_eq_false_iff_ne.mpr c22
                                have c22b1 : ((bt a0 x7_3) != 42) = true := bne_iff_ne.mpr c22
                                have H' := Aside0.mk H
                                clear H
                                have p18 : 0 ≤ (x7_3 : Int) := of_decide_eq_true (by first | (with_reducible assumption) | assumption)
                                have q18 : x7_3 < (a0.size : Int) := of_decide_eq_true (by first | (with_reducible assumption) | assumption)
                                have hx18 := bt_at a0 x7_3
                                replace p18 := eq_true p18
                                replace q18 := eq_true q18
                                go_wp2_with (first | (go_at_call 17; (with_reducible refine (spec_word.calls (bt a0 x7_3) false _ A19.out).mono ?_); rintro e w' ⟨rfl, ⟨nd, rfl⟩⟩; have p21 : 0 ≤ (x7_3 : Int) := of_decide_eq_true (by first | (with_reducible assumption) | assumption); have q21 : x7_3 < (a0.size : Int) := of_decide_eq_true (by first | (with_reducible assumption) | assumption); have hx21 := bt_at a0 x7_3; replace p21 := eq_true p21; replace q21 := eq_true q21))
                                go_meet
                                case rel => exact ⟨_, (x7_3), (by first | rfl | (simp; done) | (simp [*]; done)), H', ⟨by have := HK1.out; have := HJ7.out; have := HK3.out; first | omega | exact Nat.le_refl _⟩, ⟨by (with_reducible repeat (first | apply Kd.R_alloc | apply Kd.R_drewN | apply Kd.R_drew)); exact HO_4.out⟩, ⟨by repeat (first | (with_reducible first | exact HB.out | apply below_alloc | apply pw_below_drewN | apply below_drew1) | exact HB.out)⟩⟩
                          · rw [if_neg c17] at H
                            exact absurd H (by simp)
                        · rw [if_neg c16] at H
                          have c16b0 : decide (x7_3 < (a0.size : Int)) = false := decide_eq_false c16
                          clear c16
                          (first | rw [c16b0] | (simp only [i64_w, i32_w]; rw [c16b0]) | skip)
                          have H' := Aside0.mk H
                          clear H
                          go_wp2
                          go_meet
                          case rel => exact ⟨_, (x7_3), (by first | rfl | (simp; done) | (simp [*]; done)), H', ⟨by have := HK1.out; have := HJ7.out; have := HK3.out; first | omega | exact Nat.le_refl _⟩, ⟨by (with_reducible repeat (first | apply Kd.R_alloc | apply Kd.R_drewN | apply Kd.R_drew)); exact HO_4.out⟩, ⟨by repeat (first | (with_reducible first | exact HB.out | apply below_alloc | apply pw_below_drewN | apply below_drew1) | exact HB.out)⟩⟩
                  case rest =>
                    clear HC15
                    try clear c1
                    try clear p1
                    try clear q1
                    try clear hx1
                    try clear c2
                    try clear c2b0
                    try clear p2
                    try clear q2
                    try clear hx2
                    try clear c3
                    try clear c3b0
                    try clear p4
                    try clear q4
                    try clear hx4
                    try clear c5
                    try clear c5b0
                    try clear c5b1
                    try clear p6
                    try clear q6
                    try clear hx6
                    try clear c7
                    try clear c7b0
                    try clear c7b1
                    try clear c9
                    try clear c9b0
                    try clear c10
                    try clear c10b0
                    try clear c10b1
                    try clear c11
                    try clear c11b0
                    try clear c11b1
                    try clear c12
                    try clear c12b0
                    try clear c12b1
                    try clear c13
                    try clear c16
                    try clear c16b0
                    try clear c17
                    try clear c17b0
                    try clear p18
                    try clear q18
                    try clear hx18
                    try clear c20
                    try clear p21
                    try clear q21
                    try clear hx21
                    try clear c22
                    try clear c22b0
                    try clear c22b1
                    try clear p18
                    try clear p2
                    try clear p21
                    try clear p4
                    try clear p6
                    try clear q18
                    try clear q21
                    try clear q4
                    try clear q6
                    obtain ⟨kq, x7_14, rfl, HA, HJ14, HO_4, HB⟩ := hcut
                    cases kq with
                    | zero => exact absurd HA.out (by simp [spec_pieces.j3])
                    | succ kj14 =>
                      have H := HA.out
                      clear HA
                      simp only [spec_pieces.j3] at H
                      have HC23 := Aside0.mk H
                      clear H
                      go_upto_region 14 with (fail)
                      go_cut [90] (fun v90 wc => ∃ (kq : Nat) (x90_22 : Bool), v90 = .bool x90_22 ∧ Aside0 (spec_pieces.j4 kq a0 x4_7 x6_1 x7_14 x90_22 = some (r1, r2)) ∧ Aside0 (kq ≤ kj14) ∧ Aside0 (Kd.R k45 45 wc w.heap.size (fun _ => True) u4 x4_7) ∧ Aside0 (Below w.heap.size w wc))
                      case first =>
                        have H := HC23.out
                        clear HC23
                        by_cases c24 : x7_14 = (a0.size : Int)
                        · rw [if_pos c24] at H
                          have c24b0 : (x7_14 == (a0.size : Int)) = true := beq_iff_eq.mpr c24
                          have c24b1 : (x7_14 != (a0.size : Int)) = false := bne_eq_false_iff_eq.mpr c24
                          clear c24
                          (first | rw [c24b0] | (simp only [i64_w, i32_w]; rw [c24b0]) | skip)
                          have H' := Aside0.mk H
                          clear H
                          go_wp2
                          go_meet
                          case rel => exact ⟨_, (true), (by first | rfl | (simp; done) | (simp [*]; done)), H', ⟨by have := HK1.out; have := HJ7.out; have := HJ14.out; first | omega | exact Nat.le_refl _⟩, ⟨by (with_reducible repeat (first | apply Kd.R_alloc | apply Kd.R_drewN | apply Kd.R_drew)); exact HO_4.out⟩, ⟨by repeat (first | (with_reducible first | exact HB.out | apply below_alloc | apply pw_below_drewN | apply below_drew1) | exact HB.out)⟩⟩
                        · rw [if_neg c24] at H
                          have c24b0 : (x7_14 == (a0.size : Int)) = false := beq_eq_false_iff_ne.mpr c24
                          have c24b1 : (x7_14 != (a0.size : Int)) = true := bne_iff_ne.mpr c24
                          (first | rw [c24b0] | (simp only [i64_w, i32_w]; rw [c24b0]) | skip)
                          by_cases c25 : 0 ≤ x7_14
                          · rw [if_pos c25] at H
                            have c25b0 : decide (0 ≤ x7_14) = true := decide_eq_true c25
                            clear c25
                            by_cases c26 : x7_14 < (a0.size : Int)
                            · rw [if_pos c26] at H
                              have c26b0 : decide (x7_14 < (a0.size : Int)) = true := decide_eq_true c26
                              clear c26
                              by_cases c28 : (bt a0 x7_14) = 125
                              · rw [if_pos c28] at H
                                have c28b0 : ((bt a0 x7_14) == 125) = true := beq_iff_eq.mpr c28
                                have c28b1 : ((bt a0 x7_14) != 125) = false := bne_eq_false_iff_eq.mpr c28
                                clear c28
                                by_cases c29 : x6_1 = 0
                                · rw [if_pos c29] at H
                                  have c29b0 : (x6_1 == 0) = true := beq_iff_eq.mpr c29
                                  have c29b1 : (x6_1 != 0) = false := bne_eq_false_iff_eq.mpr c29
                                  clear c29
                                  have H' := Aside0.mk H
                                  clear H
                                  have p27 : 0 ≤ (x7_14 : Int) := of_decide_eq_true (by first | (with_reducible assumption) | assumption)
                                  have q27 : x7_14 < (a0.size : Int) := of_decide_eq_true (by first | (with_reducible assumption) | assumption)
                                  have hx27 := bt_at a0 x7_14
                                  replace p27 := eq_true p27
                                  replace q27 := eq_true q27
                                  go_wp2
                                  go_meet
                                  case rel => exact ⟨_, (true), (by first | rfl | (simp; done) | (simp [*]; done)), H', ⟨by have := HK1.out; have := HJ7.out; have := HJ14.out; first | omega | exact Nat.le_refl _⟩, ⟨by (with_reducible repeat (first | apply Kd.R_alloc | apply Kd.R_drewN | apply Kd.R_drew)); exact HO_4.out⟩, ⟨by repeat (first | (with_reducible first | exact HB.out | apply below_alloc | apply pw_below_drewN | apply below_drew1) | exact HB.out)⟩⟩
                                · rw [if_neg c29] at H
                                  have c29b0 : (x6_1 == 0) = false := beq_eq_false_iff_ne.mpr c29
                                  have c29b1 : (x6_1 != 0) = true := bne_iff_ne.mpr c29
                                  obtain ⟨ji30, hji30⟩ : ∃ j_ : Int, (wrap64 (x6_1 - 1)) = j_ := ⟨_, rfl⟩
                                  replace H : (if 0 ≤ (ji30) then (if (ji30) < (a0.size : Int) then (if (bt a0 (ji30)) = 47 then (if (wrap64 (x7_14 + 1)) < (a0.size : Int) then (if 0 ≤ (wrap64 (x7_14 + 1)) then (spec_pieces.j4 kj14 a0 x4_7 x6_1 x7_14 ((bt a0 (wrap64 (x7_14 + 1))) != 47)) else (none)) else (spec_pieces.j4 kj14 a0 x4_7 x6_1 x7_14 false)) else (spec_pieces.j4 kj14 a0 x4_7 x6_1 x7_14 true)) else (none)) else (none)) = some (r1, r2) := by first | (rw [hji30] at H; exact H) | (simp only [hji30] at H ⊢; exact H)
                                  have hji30w : (IntKind.i64.wrap (x6_1 - 1)) = ji30 := (i64_w _).trans hji30
                                  by_cases c31 : 0 ≤ (ji30)
                                  · rw [if_pos c31] at H
                                    have c31b0 : decide (0 ≤ (ji30)) = true := decide_eq_true c31
                                    clear c31
                                    by_cases c32 : (ji30) < (a0.size : Int)
                                    · rw [if_pos c32] at H
                                      have c32b0 : decide ((ji30) < (a0.size : Int)) = true := decide_eq_true c32
                                      clear c32
                                      by_cases c34 : (bt a0 (ji30)) = 47
                                      · rw [if_pos c34] at H
                                        have c34b0 : ((bt a0 (ji30)) == 47) = true := beq_iff_eq.mpr c34
                                        have c34b1 : ((bt a0 (ji30)) != 47) = false := bne_eq_false_iff_eq.mpr c34
                                        clear c34
                                        by_cases c35 : (wrap64 (x7_14 + 1)) < (a0.size : Int)
                                        · rw [if_pos c35] at H
                                          have c35b0 : decide ((wrap64 (x7_14 + 1)) < (a0.size : Int)) = true := decide_eq_true c35
                                          clear c35
                                          obtain ⟨ji36, hji36⟩ : ∃ j_ : Int, (wrap64 (x7_14 + 1)) = j_ := ⟨_, rfl⟩
                                          replace H : (if 0 ≤ (ji36) then (spec_pieces.j4 kj14 a0 x4_7 x6_1 x7_14 ((bt a0 (ji36)) != 47)) else (none)) = some (r1, r2) := by first | (rw [hji36] at H; exact H) | (simp only [hji36] at H ⊢; exact H)
                                          (try rw [hji36] at c35b0)
                                          have hji36w : (IntKind.i64.wrap (x7_14 + 1)) = ji36 := (i64_w _).trans hji36
                                          by_cases c37 : 0 ≤ (ji36)
                                          · rw [if_pos c37] at H
                                            have c37b0 : decide (0 ≤ (ji36)) = true := decide_eq_true c37
                                            clear c37
                                            have H' := Aside0.mk H
                                            clear H
                                            have p27 : 0 ≤ (x7_14 : Int) := of_decide_eq_true (by first | (with_reducible assumption) | assumption)
                                            have q27 : x7_14 < (a0.size : Int) := of_decide_eq_true (by first | (with_reducible assumption) | assumption)
                                            have hx27 := bt_at a0 x7_14
                                            replace p27 := eq_true p27
                                            replace q27 := eq_true q27
                                            have p33 : 0 ≤ ((ji30) : Int) := of_decide_eq_true (by first | (with_reducible assumption) | assumption)
                                            have q33 : (ji30) < (a0.size : Int) := of_decide_eq_true (by first | (with_reducible assumption) | assumption)
                                            have hx33 := bt_at a0 (ji30)
                                            replace p33 := eq_true p33
                                            replace q33 := eq_true q33
                                            have p38 : 0 ≤ ((ji36) : Int) := of_decide_eq_true (by first | (with_reducible assumption) | assumption)
                                            have q38 : (ji36) < (a0.size : Int) := of_decide_eq_true (by first | (with_reducible assumption) | assumption)
                                            have hx38 := bt_at a0 (ji36)
                                            replace p38 := eq_true p38
                                            replace q38 := eq_true q38
                                            go_wp2
                                            go_meet
                                            case rel => exact ⟨_, (((bt a0 (ji36)) != 47)), (by first | rfl | (simp; done) | (simp only [← hji36] <;> (first | rfl | simp)) | (simp [*]; done)), H', ⟨by have := HK1.out; have := HJ7.out; have := HJ14.out; first | omega | exact Nat.le_refl _⟩, ⟨by (with_reducible repeat (first | apply Kd.R_alloc | apply Kd.R_drewN | apply Kd.R_drew)); exact HO_4.out⟩, ⟨by repeat (first | (with_reducible first | exact HB.out | apply below_alloc | apply pw_below_drewN | apply below_drew1) | exact HB.out)⟩⟩
                                          · rw [if_neg c37] at H
                                            exact absurd H (by simp)
                                        · rw [if_neg c35] at H
                                          have c35b0 : decide ((wrap64 (x7_14 + 1)) < (a0.size : Int)) = false := decide_eq_false c35
                                          clear c35
                                          have H' := Aside0.mk H
                                          clear H
                                          have p27 : 0 ≤ (x7_14 : Int) := of_decide_eq_true (by first | (with_reducible assumption) | assumption)
                                          have q27 : x7_14 < (a0.size : Int) := of_decide_eq_true (by first | (with_reducible assumption) | assumption)
                                          have hx27 := bt_at a0 x7_14
                                          replace p27 := eq_true p27
                                          replace q27 := eq_true q27
                                          have p33 : 0 ≤ ((ji30) : Int) := of_decide_eq_true (by first | (with_reducible assumption) | assumption)
                                          have q33 : (ji30) < (a0.size : Int) := of_decide_eq_true (by first | (with_reducible assumption) | assumption)
                                          have hx33 := bt_at a0 (ji30)
                                          replace p33 := eq_true p33
                                          replace q33 := eq_true q33
                                          go_wp2
                                          go_meet
                                          case rel => exact ⟨_, (false), (by first | rfl | (simp; done) | (simp [*]; done)), H', ⟨by have := HK1.out; have := HJ7.out; have := HJ14.out; first | omega | exact Nat.le_refl _⟩, ⟨by (with_reducible repeat (first | apply Kd.R_alloc | apply Kd.R_drewN | apply Kd.R_drew)); exact HO_4.out⟩, ⟨by repeat (first | (with_reducible first | exact HB.out | apply below_alloc | apply pw_below_drewN | apply below_drew1) | exact HB.out)⟩⟩
                                      · rw [if_neg c34] at H
                                        have c34b0 : ((bt a0 (ji30)) == 47) = false := beq_eq_false_iff_ne.mpr c34
                                        have c34b1 : ((bt a0 (ji30)) != 47) = true := bne_iff_ne.mpr c34
                                        have H' := Aside0.mk H
                                        clear H
                                        have p27 : 0 ≤ (x7_14 : Int) := of_decide_eq_true (by first | (with_reducible assumption) | assumption)
                                        have q27 : x7_14 < (a0.size : Int) := of_decide_eq_true (by first | (with_reducible assumption) | assumption)
                                        have hx27 := bt_at a0 x7_14
                                        replace p27 := eq_true p27
                                        replace q27 := eq_true q27
                                        have p33 : 0 ≤ ((ji30) : Int) := of_decide_eq_true (by first | (with_reducible assumption) | assumption)
                                        have q33 : (ji30) < (a0.size : Int) := of_decide_eq_true (by first | (with_reducible assumption) | assumption)
                                        have hx33 := bt_at a0 (ji30)
                                        replace p33 := eq_true p33
                                        replace q33 := eq_true q33
                                        go_wp2
                                        go_meet
                                        case rel => exact ⟨_, (true), (by first | rfl | (simp; done) | (simp [*]; done)), H', ⟨by have := HK1.out; have := HJ7.out; have := HJ14.out; first | omega | exact Nat.le_refl _⟩, ⟨by (with_reducible repeat (first | apply Kd.R_alloc | apply Kd.R_drewN | apply Kd.R_drew)); exact HO_4.out⟩, ⟨by repeat (first | (with_reducible first | exact HB.out | apply below_alloc | apply pw_below_drewN | apply below_drew1) | exact HB.out)⟩⟩
                                    · rw [if_neg c32] at H
                                      exact absurd H (by simp)
                                  · rw [if_neg c31] at H
                                    exact absurd H (by simp)
                              · rw [if_neg c28] at H
                                have c28b0 : ((bt a0 x7_14) == 125) = false := beq_eq_false_iff_ne.mpr c28
                                have c28b1 : ((bt a0 x7_14) != 125) = true := bne_iff_ne.mpr c28
                                have H' := Aside0.mk H
                                clear H
                                have p27 : 0 ≤ (x7_14 : Int) := of_decide_eq_true (by first | (with_reducible assumption) | assumption)
                                have q27 : x7_14 < (a0.size : Int) := of_decide_eq_true (by first | (with_reducible assumption) | assumption)
                                have hx27 := bt_at a0 x7_14
                                replace p27 := eq_true p27
                                replace q27 := eq_true q27
                                go_wp2
                                go_meet
                                case rel => exact ⟨_, (true), (by first | rfl | (simp; done) | (simp [*]; done)), H', ⟨by have := HK1.out; have := HJ7.out; have := HJ14.out; first | omega | exact Nat.le_refl _⟩, ⟨by (with_reducible repeat (first | apply Kd.R_alloc | apply Kd.R_drewN | apply Kd.R_drew)); exact HO_4.out⟩, ⟨by repeat (first | (with_reducible first | exact HB.out | apply below_alloc | apply pw_below_drewN | apply below_drew1) | exact HB.out)⟩⟩
                            · rw [if_neg c26] at H
                              exact absurd H (by simp)
                          · rw [if_neg c25] at H
                            exact absurd H (by simp)
                      case rest =>
                        clear HC23
                        try clear c1
                        try clear p1
                        try clear q1
                        try clear hx1
                        try clear c2
                        try clear c2b0
                        try clear p2
                        try clear q2
                        try clear hx2
                        try clear c3
                        try clear c3b0
                        try clear p3
                        try clear q3
                        try clear hx3
                        try clear p4
                        try clear q4
                        try clear hx4
                        try clear c5
                        try clear c5b0
                        try clear c5b1
                        try clear p6
                        try clear q6
                        try clear hx6
                        try clear c7
                        try clear c7b0
                        try clear c7b1
                        try clear c9
                        try clear c9b0
                        try clear c10
                        try clear c10b0
                        try clear c10b1
                        try clear c11
                        try clear c11b0
                        try clear c11b1
                        try clear c12
                        try clear c12b0
                        try clear c12b1
                        try clear c13
                        try clear c16
                        try clear c16b0
                        try clear c17
                        try clear c17b0
                        try clear p18
                        try clear q18
                        try clear hx18
                        try clear c20
                        try clear p21
                        try clear q21
                        try clear hx21
                        try clear c22
                        try clear c22b0
                        try clear c22b1
                        try clear c24
                        try clear c24b0
                        try clear c24b1
                        try clear c25
                        try clear c25b0
                        try clear c26
                        try clear c26b0
                        try clear p27
                        try clear q27
                        try clear hx27
                        try clear c28
                        try clear c28b0
                        try clear c28b1
                        try clear c29
                        try clear c29b0
                        try clear c29b1
                        try clear c31
                        try clear c31b0
                        try clear c32
                        try clear c32b0
                        try clear p33
                        try clear q33
                        try clear hx33
                        try clear c34
                        try clear c34b0
                        try clear c34b1
                        try clear c35
                        try clear c35b0
                        try clear c37
                        try clear c37b0
                        try clear p38
                        try clear q38
                        try clear hx38
                        try clear p1
                        try clear p18
                        try clear p2
                        try clear p21
                        try clear p27
                        try clear p33
                        try clear p38
                        try clear p4
                        try clear p6
                        try clear q1
                        try clear q18
                        try clear q2
                        try clear q21
                        try clear q27
                        try clear q33
                        try clear q38
                        try clear q4
                        try clear q6
                        obtain ⟨kq, x90_22, rfl, HA, HJ22, HO_4, HB⟩ := hcut
                        cases kq with
                        | zero => exact absurd HA.out (by simp [spec_pieces.j4])
                        | succ kj22 =>
                          have H := HA.out
                          clear HA
                          simp only [spec_pieces.j4] at H
                          by_cases c39 : x90_22 = true
                          · subst c39
                            have H1 : (some (([] : List (S45)), 2)) = some (r1, r2) := by rw [if_pos rfl] at H; exact H
                            clear H
                            have H := H1
                            clear H1
                            simp only [Option.some.injEq, Prod.mk.injEq] at H
                            obtain ⟨rfl, rfl⟩ := H
                            go_wp2
                            go_ret2
                            exact ⟨_, by first | rfl | (simp [errW_none, errW_some] <;> rfl) | (simp [*, errW_none, errW_some] <;> rfl), by first | exact Kd.R_nil _ _ _ _ _ | exact Kd.N_nil _ _ _ _ _ | exact Kd.V_nil _ _ _ _ _ | exact Kd.Q_nil _ _ _ _ _ | exact Kd.S_nil _ _ _ _ _, by repeat (first | (with_reducible first | exact HB.out | apply below_alloc | apply pw_below_drewN | apply below_drew1) | exact HB.out)⟩
                          · replace c39 := Bool.eq_false_iff.mpr c39
                            subst c39
                            have H1 : (if 0 ≤ (wrap64 (x6_1 + 1)) then (if (wrap64 (x6_1 + 1)) ≤ x7_14 then (if x7_14 ≤ (a0.size : Int) then (if (a0.extract ((wrap64 (x6_1 + 1)) : Int).toNat (x7_14 : Int).toNat).toList = ([] : List UInt8) then (spec_pieces.j5 kj22 a0 x4_7 x7_14 (a0.extract ((wrap64 (x6_1 + 1)) : Int).toNat (x7_14 : Int).toNat) 1 false) else (if 0 ≤ (wrap64 (((a0.extract ((wrap64 (x6_1 + 1)) : Int).toNat (x7_14 : Int).toNat).size : Int) - 1)) then (if (wrap64 (((a0.extract ((wrap64 (x6_1 + 1)) : Int).toNat (x7_14 : Int).toNat).size : Int) - 1)) < ((a0.extract ((wrap64 (x6_1 + 1)) : Int).toNat (x7_14 : Int).toNat).size : Int) then (spec_pieces.j5 kj22 a0 x4_7 x7_14 (a0.extract ((wrap64 (x6_1 + 1)) : Int).toNat (x7_14 : Int).toNat) 1 ((bt (a0.extract ((wrap64 (x6_1 + 1)) : Int).toNat (x7_14 : Int).toNat) (wrap64 (((a0.extract ((wrap64 (x6_1 + 1)) : Int).toNat (x7_14 : Int).toNat).size : Int) - 1))) == 42)) else (none)) else (none))) else (none)) else (none)) else (none)) = some (r1, r2) := by rw [if_neg (show ¬ (false = true) by decide)] at H; exact H
                            clear H
                            have H := H1
                            clear H1
                            obtain ⟨ji40, hji40⟩ : ∃ j_ : Int, (wrap64 (x6_1 + 1)) = j_ := ⟨_, rfl⟩
                            replace H : (if 0 ≤ (ji40) then (if (ji40) ≤ x7_14 then (if x7_14 ≤ (a0.size : Int) then (if (a0.extract ((ji40) : Int).toNat (x7_14 : Int).toNat).toList = ([] : List UInt8) then (spec_pieces.j5 kj22 a0 x4_7 x7_14 (a0.extract ((ji40) : Int).toNat (x7_14 : Int).toNat) 1 false) else (if 0 ≤ (wrap64 (((a0.extract ((ji40) : Int).toNat (x7_14 : Int).toNat).size : Int) - 1)) then (if (wrap64 (((a0.extract ((ji40) : Int).toNat (x7_14 : Int).toNat).size : Int) - 1)) < ((a0.extract ((ji40) : Int).toNat (x7_14 : Int).toNat).size : Int) then (spec_pieces.j5 kj22 a0 x4_7 x7_14 (a0.extract ((ji40) : Int).toNat (x7_14 : Int).toNat) 1 ((bt (a0.extract ((ji40) : Int).toNat (x7_14 : Int).toNat) (wrap64 (((a0.extract ((ji40) : Int).toNat (x7_14 : Int).toNat).size : Int) - 1))) == 42)) else (none)) else (none))) else (none)) else (none)) else (none)) = some (r1, r2) := by first | (rw [hji40] at H; exact H) | (simp only [hji40] at H ⊢; exact H)
                            have hji40w : (IntKind.i64.wrap (x6_1 + 1)) = ji40 := (i64_w _).trans hji40
                            by_cases c41 : 0 ≤ (ji40)
                            · rw [if_pos c41] at H
                              have c41b0 := eq_true c41
                              have c41b1 : decide (0 ≤ (ji40)) = true := decide_eq_true c41
                              clear c41
                              by_cases c42 : (ji40) ≤ x7_14
                              · rw [if_pos c42] at H
                                have c42b0 := eq_true c42
                                have c42b1 : decide ((ji40) ≤ x7_14) = true := decide_eq_true c42
                                clear c42
                                by_cases c43 : x7_14 ≤ (a0.size : Int)
                                · rw [if_pos c43] at H
                                  have c43b0 := eq_true c43
                                  have c43b1 : decide (x7_14 ≤ (a0.size : Int)) = true := decide_eq_true c43
                                  clear c43
                                  have HC44 := Aside0.mk H
                                  clear H
                                  go_upto_region 17 with (fail)
                                  generalize a0.extract ((ji40) : Int).toNat (x7_14 : Int).toNat = nm at HC44 ⊢
                                  go_cut [105] (fun v105 wc => ∃ (kq : Nat) (x105_43 : Bool), v105 = .bool x105_43 ∧ Aside0 (spec_pieces.j5 kq a0 x4_7 x7_14 nm 1 x105_43 = some (r1, r2)) ∧ Aside0 (kq ≤ kj22) ∧ Aside0 (Kd.R k45 45 wc w.heap.size (fun _ => True) u4 x4_7) ∧ Aside0 (Below w.heap.size w wc))
                                  case first =>
                                    have H := HC44.out
                                    clear HC44
                                    by_cases c45 : nm.toList = ([] : List UInt8)
                                    · rw [if_pos c45] at H
                                      have c45b0 : (nm.toList == ([] : List UInt8)) = true := beq_iff_eq.mpr c45
                                      have c45b1 : (nm.toList != ([] : List UInt8)) = false := bne_eq_false_iff_eq.mpr c45
                                      clear c45
                                      (first | rw [c45b0] | (simp only [i64_w, i32_w]; rw [c45b0]) | skip)
                                      have H' := Aside0.mk H
                                      clear H
                                      go_wp2
                                      go_meet
                                      case rel => exact ⟨_, (false), (by first | rfl | (simp; done) | (simp [*]; done)), H', ⟨by have := HK1.out; have := HJ7.out; have := HJ14.out; have := HJ22.out; first | omega | exact Nat.le_refl _⟩, ⟨by (with_reducible repeat (first | apply Kd.R_alloc | apply Kd.R_drewN | apply Kd.R_drew)); exact HO_4.out⟩, ⟨by repeat (first | (with_reducible first | exact HB.out | apply below_alloc | apply pw_below_drewN | apply below_drew1) | exact HB.out)⟩⟩
                                    · rw [if_neg c45] at H
                                      have c45b0 : (nm.toList == ([] : List UInt8)) = false := beq_eq_false_iff_ne.mpr c45
                                      have c45b1 : (nm.toList != ([] : List UInt8)) = true := bne_iff_ne.mpr c45
                                      (first | rw [c45b0] | (simp only [i64_w, i32_w]; rw [c45b0]) | skip)
                                      obtain ⟨ji46, hji46⟩ : ∃ j_ : Int, (wrap64 ((nm.size : Int) - 1)) = j_ := ⟨_, rfl⟩
                                      replace H : (if 0 ≤ (ji46) then (if (ji46) < (nm.size : Int) then (spec_pieces.j5 kj22 a0 x4_7 x7_14 nm 1 ((bt nm (ji46)) == 42)) else (none)) else (none)) = some (r1, r2) := by first | (rw [hji46] at H; exact H) | (simp only [hji46] at H ⊢; exact H)
                                      have hji46w : (IntKind.i64.wrap ((nm.size : Int) - 1)) = ji46 := (i64_w _).trans hji46
                                      by_cases c47 : 0 ≤ (ji46)
                                      · rw [if_pos c47] at H
                                        have c47b0 : decide (0 ≤ (ji46)) = true := decide_eq_true c47
                                        clear c47
                                        by_cases c48 : (ji46) < (nm.size : Int)
                                        · rw [if_pos c48] at H
                                          have c48b0 : decide ((ji46) < (nm.size : Int)) = true := decide_eq_true c48
                                          clear c48
                                          have H' := Aside0.mk H
                                          clear H
                                          have p49 : 0 ≤ ((ji46) : Int) := of_decide_eq_true (by first | (with_reducible assumption) | assumption)
                                          have q49 : (ji46) < (nm.size : Int) := of_decide_eq_true (by first | (with_reducible assumption) | assumption)
                                          have hx49 := bt_at nm (ji46)
                                          replace p49 := eq_true p49
                                          replace q49 := eq_true q49
                                          go_wp2
                                          go_meet
                                          case rel => exact ⟨_, (((bt nm (ji46)) == 42)), (by first | rfl | (simp; done) | (simp only [← hji40, ← hji46] <;> (first | rfl | simp)) | (simp [*]; done)), H', ⟨by have := HK1.out; have := HJ7.out; have := HJ14.out; have := HJ22.out; first | omega | exact Nat.le_refl _⟩, ⟨by (with_reducible repeat (first | apply Kd.R_alloc | apply Kd.R_drewN | apply Kd.R_drew)); exact HO_4.out⟩, ⟨by repeat (first | (with_reducible first | exact HB.out | apply below_alloc | apply pw_below_drewN | apply below_drew1) | exact HB.out)⟩⟩
                                        · rw [if_neg c48] at H
                                          exact absurd H (by simp)
                                      · rw [if_neg c47] at H
                                        exact absurd H (by simp)
                                  case rest =>
                                    clear HC44
                                    try clear c1
                                    try clear p1
                                    try clear q1
                                    try clear hx1
                                    try clear c2
                                    try clear c2b0
                                    try clear p2
                                    try clear q2
                                    try clear hx2
                                    try clear c3
                                    try clear c3b0
                                    try clear p3
                                    try clear q3
                                    try clear hx3
                                    try clear c4
                                    try clear p4
                                    try clear q4
                                    try clear hx4
                                    try clear c5
                                    try clear c5b0
                                    try clear c5b1
                                    try clear p6
                                    try clear q6
                                    try clear hx6
                                    try clear c7
                                    try clear c7b0
                                    try clear c7b1
                                    try clear c9
                                    try clear c9b0
                                    try clear c10
                                    try clear c10b0
                                    try clear c10b1
                                    try clear c11
                                    try clear c11b0
                                    try clear c11b1
                                    try clear c12
                                    try clear c12b0
                                    try clear c12b1
                                    try clear c13
                                    try clear c16
                                    try clear c16b0
                                    try clear c17
                                    try clear c17b0
                                    try clear p18
                                    try clear q18
                                    try clear hx18
                                    try clear c20
                                    try clear p21
                                    try clear q21
                                    try clear hx21
                                    try clear c22
                                    try clear c22b0
                                    try clear c22b1
                                    try clear c24
                                    try clear c24b0
                                    try clear c24b1
                                    try clear c25
                                    try clear c25b0
                                    try clear c26
                                    try clear c26b0
                                    try clear p27
                                    try clear q27
                                    try clear hx27
                                    try clear c28
                                    try clear c28b0
                                    try clear c28b1
                                    try clear c29
                                    try clear c29b0
                                    try clear c29b1
                                    try clear c31
                                    try clear c31b0
                                    try clear c32
                                    try clear c32b0
                                    try clear p33
                                    try clear q33
                                    try clear hx33
                                    try clear c34
                                    try clear c34b0
                                    try clear c34b1
                                    try clear c35
                                    try clear c35b0
                                    try clear c37
                                    try clear c37b0
                                    try clear p38
                                    try clear q38
                                    try clear hx38
                                    try clear c39
                                    try clear c41
                                    try clear c41b0
                                    try clear c41b1
                                    try clear c42
                                    try clear c42b0
                                    try clear c42b1
                                    try clear c43
                                    try clear c43b0
                                    try clear c43b1
                                    try clear c45
                                    try clear c45b0
                                    try clear c45b1
                                    try clear c47
                                    try clear c47b0
                                    try clear c48
                                    try clear c48b0
                                    try clear p49
                                    try clear q49
                                    try clear hx49
                                    try clear p1
                                    try clear p18
                                    try clear p2
                                    try clear p21
                                    try clear p27
                                    try clear p3
                                    try clear p33
                                    try clear p38
                                    try clear p4
                                    try clear p49
                                    try clear p6
                                    try clear q1
                                    try clear q18
                                    try clear q2
                                    try clear q21
                                    try clear q27
                                    try clear q3
                                    try clear q33
                                    try clear q38
                                    try clear q4
                                    try clear q49
                                    try clear q6
                                    obtain ⟨kq, x105_43, rfl, HA, HJ43, HO_4, HB⟩ := hcut
                                    cases kq with
                                    | zero => exact absurd HA.out (by simp [spec_pieces.j5])
                                    | succ kj43 =>
                                      have H := HA.out
                                      clear HA
                                      simp only [spec_pieces.j5] at H
                                      have HC50 := Aside0.mk H
                                      clear H
                                      go_upto_if 105 with (fail)
                                      go_cut [8, 9] (fun v8 v9 wc => ∃ (kq : Nat) (x8_49 : ByteArray) (x9_49 : Int), v8 = .string x8_49 ∧ v9 = .int .i64 x9_49 ∧ Aside0 (spec_pieces.j6 kq a0 x4_7 x7_14 x8_49 x9_49 = some (r1, r2)) ∧ Aside0 (kq ≤ kj43) ∧ Aside0 (Kd.R k45 45 wc w.heap.size (fun _ => True) u4 x4_7) ∧ Aside0 (Below w.heap.size w wc))
                                      case first =>
                                        have H := HC50.out
                                        clear HC50
                                        by_cases c51 : x105_43 = true
                                        · subst c51
                                          have H1 : (if 0 ≤ (wrap64 ((nm.size : Int) - 1)) then (if (wrap64 ((nm.size : Int) - 1)) ≤ (nm.size : Int) then (spec_pieces.j6 kj43 a0 x4_7 x7_14 (nm.extract 0 ((wrap64 ((nm.size : Int) - 1)) : Int).toNat) 2) else (none)) else (none)) = some (r1, r2) := by rw [if_pos rfl] at H; exact H
                                          clear H
                                          have H := H1
                                          clear H1
                                          obtain ⟨ji52, hji52⟩ : ∃ j_ : Int, (wrap64 ((nm.size : Int) - 1)) = j_ := ⟨_, rfl⟩
                                          replace H : (if 0 ≤ (ji52) then (if (ji52) ≤ (nm.size : Int) then (spec_pieces.j6 kj43 a0 x4_7 x7_14 (nm.extract 0 ((ji52) : Int).toNat) 2) else (none)) else (none)) = some (r1, r2) := by first | (rw [hji52] at H; exact H) | (simp only [hji52] at H ⊢; exact H)
                                          have hji52w : (IntKind.i64.wrap ((nm.size : Int) - 1)) = ji52 := (i64_w _).trans hji52
                                          by_cases c53 : 0 ≤ (ji52)
                                          · rw [if_pos c53] at H
                                            have c53b0 := eq_true c53
                                            have c53b1 : decide (0 ≤ (ji52)) = true := decide_eq_true c53
                                            clear c53
                                            by_cases c54 : (ji52) ≤ (nm.size : Int)
                                            · rw [if_pos c54] at H
                                              have c54b0 := eq_true c54
                                              have c54b1 : decide ((ji52) ≤ (nm.size : Int)) = true := decide_eq_true c54
                                              clear c54
                                              have H' := Aside0.mk H
                                              clear H
                                              go_wp2
                                              go_meet
                                              case rel => exact ⟨_, (nm.extract 0 ((ji52) : Int).toNat), (2), (by first | rfl | (simp; done) | (simp only [← hji40, ← hji52] <;> (first | rfl | simp)) | (simp [*]; done)), (by first | rfl | (simp; done) | (simp [*]; done)), H', ⟨by have := HK1.out; have := HJ7.out; have := HJ14.out; have := HJ22.out; have := HJ43.out; first | omega | exact Nat.le_refl _⟩, ⟨by (with_reducible repeat (first | apply Kd.R_alloc | apply Kd.R_drewN | apply Kd.R_drew)); exact HO_4.out⟩, ⟨by repeat (first | (with_reducible first | exact HB.out | apply below_alloc | apply pw_below_drewN | apply below_drew1) | exact HB.out)⟩⟩
                                            · rw [if_neg c54] at H
                                              exact absurd H (by simp)
                                          · rw [if_neg c53] at H
                                            exact absurd H (by simp)
                                        · replace c51 := Bool.eq_false_iff.mpr c51
                                          subst c51
                                          have H1 : (spec_pieces.j6 kj43 a0 x4_7 x7_14 nm 1) = some (r1, r2) := by rw [if_neg (show ¬ (false = true) by decide)] at H; exact H
                                          clear H
                                          have H := H1
                                          clear H1
                                          have H' := Aside0.mk H
                                          clear H
                                          go_wp2
                                          go_meet
                                          case rel => exact ⟨_, (nm), (1), (by first | rfl | (simp; done) | (simp only [← hji40] <;> (first | rfl | simp)) | (simp [*]; done)), (by first | rfl | (simp; done) | (simp [*]; done)), H', ⟨by have := HK1.out; have := HJ7.out; have := HJ14.out; have := HJ22.out; have := HJ43.out; first | omega | exact Nat.le_refl _⟩, ⟨by (with_reducible repeat (first | apply Kd.R_alloc | apply Kd.R_drewN | apply Kd.R_drew)); exact HO_4.out⟩, ⟨by repeat (first | (with_reducible first | exact HB.out | apply below_alloc | apply pw_below_drewN | apply below_drew1) | exact HB.out)⟩⟩
                                      case rest =>
                                        clear HC50
                                        try clear c1
                                        try clear p1
                                        try clear q1
                                        try clear hx1
                                        try clear c2
                                        try clear c2b0
                                        try clear p2
                                        try clear q2
                                        try clear hx2
                                        try clear c3
                                        try clear c3b0
                                        try clear p3
                                        try clear q3
                                        try clear hx3
                                        try clear c4
                                        try clear p4
                                        try clear q4
                                        try clear hx4
                                        try clear c5
                                        try clear c5b0
                                        try clear c5b1
                                        try clear p6
                                        try clear q6
                                        try clear hx6
                                        try clear c7
                                        try clear c7b0
                                        try clear c7b1
                                        try clear c9
                                        try clear c9b0
                                        try clear c10
                                        try clear c10b0
                                        try clear c10b1
                                        try clear c11
                                        try clear c11b0
                                        try clear c11b1
                                        try clear c12
                                        try clear c12b0
                                        try clear c12b1
                                        try clear c13
                                        try clear c16
                                        try clear c16b0
                                        try clear c17
                                        try clear c17b0
                                        try clear p18
                                        try clear q18
                                        try clear hx18
                                        try clear c20
                                        try clear p21
                                        try clear q21
                                        try clear hx21
                                        try clear c22
                                        try clear c22b0
                                        try clear c22b1
                                        try clear c24
                                        try clear c24b0
                                        try clear c24b1
                                        try clear c25
                                        try clear c25b0
                                        try clear c26
                                        try clear c26b0
                                        try clear p27
                                        try clear q27
                                        try clear hx27
                                        try clear c28
                                        try clear c28b0
                                        try clear c28b1
                                        try clear c29
                                        try clear c29b0
                                        try clear c29b1
                                        try clear c31
                                        try clear c31b0
                                        try clear c32
                                        try clear c32b0
                                        try clear p33
                                        try clear q33
                                        try clear hx33
                                        try clear c34
                                        try clear c34b0
                                        try clear c34b1
                                        try clear c35
                                        try clear c35b0
                                        try clear c37
                                        try clear c37b0
                                        try clear p38
                                        try clear q38
                                        try clear hx38
                                        try clear c39
                                        try clear c41
                                        try clear c41b0
                                        try clear c41b1
                                        try clear c42
                                        try clear c42b0
                                        try clear c42b1
                                        try clear c43
                                        try clear c43b0
                                        try clear c43b1
                                        try clear c45
                                        try clear c45b0
                                        try clear c45b1
                                        try clear c47
                                        try clear c47b0
                                        try clear c48
                                        try clear c48b0
                                        try clear p49
                                        try clear q49
                                        try clear hx49
                                        try clear c51
                                        try clear c53
                                        try clear c53b0
                                        try clear c53b1
                                        try clear c54
                                        try clear c54b0
                                        try clear c54b1
                                        try clear p1
                                        try clear p18
                                        try clear p2
                                        try clear p21
                                        try clear p27
                                        try clear p3
                                        try clear p33
                                        try clear p38
                                        try clear p4
                                        try clear p49
                                        try clear p6
                                        try clear q1
                                        try clear q18
                                        try clear q2
                                        try clear q21
                                        try clear q27
                                        try clear q3
                                        try clear q33
                                        try clear q38
                                        try clear q4
                                        try clear q49
                                        try clear q6
                                        obtain ⟨kq, x8_49, x9_49, rfl, rfl, HA, HJ49, HO_4, HB⟩ := hcut
                                        cases kq with
                                        | zero => exact absurd HA.out (by simp [spec_pieces.j6])
                                        | succ kj49 =>
                                          have H := HA.out
                                          clear HA
                                          simp only [spec_pieces.j6] at H
                                          have H' := Aside0.mk H
                                          clear H
                                          go_wp2
                                          go_loopg [113] kj49 (fun kq v113 w' => ∃ (x113_7 : Int), v113 = .int .i64 x113_7 ∧ Aside0 (spec_pieces.l2 kq a0 x4_7 x7_14 x8_49 x9_49 (x8_49.size : Int) x113_7 = some (r1, r2)) ∧ Aside0 (kq ≤ kj49) ∧ Aside0 (Kd.R k45 45 w' w.heap.size (fun _ => True) u4 x4_7) ∧ Aside0 (Below w.heap.size w w'))
                                          case atStart => exact ⟨(0), (by first | rfl | (simp; done) | (simp [*]; done)), H', ⟨Nat.le_refl _⟩, ⟨by (with_reducible repeat (first | apply Kd.R_alloc | apply Kd.R_drewN | apply Kd.R_drew)); exact HO_4.out⟩, ⟨by repeat (first | (with_reducible first | exact HB.out | apply below_alloc | apply pw_below_drewN | apply below_drew1) | exact HB.out)⟩⟩
                                          case round =>
                                            clear H'
                                            try clear c1
                                            try clear p1
                                            try clear q1
                                            try clear hx1
                                            try clear c2
                                            try clear c2b0
                                            try clear p2
                                            try clear q2
                                            try clear hx2
                                            try clear c3
                                            try clear c3b0
                                            try clear p3
                                            try clear q3
                                            try clear hx3
                                            try clear c4
                                            try clear p4
                                            try clear q4
                                            try clear hx4
                                            try clear c5
                                            try clear c5b0
                                            try clear c5b1
                                            try clear p6
                                            try clear q6
                                            try clear hx6
                                            try clear c7
                                            try clear c7b0
                                            try clear c7b1
                                            try clear c9
                                            try clear c9b0
                                            try clear c10
                                            try clear c10b0
                                            try clear c10b1
                                            try clear c11
                                            try clear c11b0
                                            try clear c11b1
                                            try clear c12
                                            try clear c12b0
                                            try clear c12b1
                                            try clear c13
                                            try clear c16
                                            try clear c16b0
                                            try clear c17
                                            try clear c17b0
                                            try clear p18
                                            try clear q18
                                            try clear hx18
                                            try clear c20
                                            try clear p21
                                            try clear q21
                                            try clear hx21
                                            try clear c22
                                            try clear c22b0
                                            try clear c22b1
                                            try clear c24
                                            try clear c24b0
                                            try clear c24b1
                                            try clear c25
                                            try clear c25b0
                                            try clear c26
                                            try clear c26b0
                                            try clear p27
                                            try clear q27
                                            try clear hx27
                                            try clear c28
                                            try clear c28b0
                                            try clear c28b1
                                            try clear c29
                                            try clear c29b0
                                            try clear c29b1
                                            try clear c31
                                            try clear c31b0
                                            try clear c32
                                            try clear c32b0
                                            try clear p33
                                            try clear q33
                                            try clear hx33
                                            try clear c34
                                            try clear c34b0
                                            try clear c34b1
                                            try clear c35
                                            try clear c35b0
                                            try clear c37
                                            try clear c37b0
                                            try clear p38
                                            try clear q38
                                            try clear hx38
                                            try clear c39
                                            try clear c41
                                            try clear c41b0
                                            try clear c41b1
                                            try clear c42
                                            try clear c42b0
                                            try clear c42b1
                                            try clear c43
                                            try clear c43b0
                                            try clear c43b1
                                            try clear c45
                                            try clear c45b0
                                            try clear c45b1
                                            try clear c47
                                            try clear c47b0
                                            try clear c48
                                            try clear c48b0
                                            try clear p49
                                            try clear q49
                                            try clear hx49
                                            try clear c51
                                            try clear c53
                                            try clear c53b0
                                            try clear c53b1
                                            try clear c54
                                            try clear c54b0
                                            try clear c54b1
                                            try clear p1
                                            try clear p18
                                            try clear p2
                                            try clear p21
                                            try clear p27
                                            try clear p3
                                            try clear p33
                                            try clear p38
                                            try clear p4
                                            try clear p49
                                            try clear p6
                                            try clear q1
                                            try clear q18
                                            try clear q2
                                            try clear q21
                                            try clear q27
                                            try clear q3
                                            try clear q33
                                            try clear q38
                                            try clear q4
                                            try clear q49
                                            try clear q6
                                            obtain ⟨x113_7, rfl, HA, HK7, HO_4, HB⟩ := hrel
                                            cases gk with
                                            | zero => exact absurd HA.out (by simp [spec_pieces.l2])
                                            | succ k7 =>
                                              have H := HA.out
                                              clear HA
                                              simp only [spec_pieces.l2] at H
                                              by_cases c55 : x113_7 < (x8_49.size : Int)
                                              · rw [if_pos c55] at H
                                                have c55b0 : decide (x113_7 < (x8_49.size : Int)) = true := decide_eq_true c55
                                                clear c55
                                                by_cases c56 : 0 ≤ x113_7
                                                · rw [if_pos c56] at H
                                                  have c56b0 : decide (0 ≤ x113_7) = true := decide_eq_true c56
                                                  clear c56
                                                  by_cases c57 : x113_7 < (x8_49.size : Int)
                                                  · rw [if_pos c57] at H
                                                    have c57b0 : decide (x113_7 < (x8_49.size : Int)) = true := decide_eq_true c57
                                                    clear c57
                                                    replace H := Option.bind_eq_some_iff.mp H
                                                    obtain ⟨t111, A590, H⟩ := H
                                                    replace H : (if t111 = true then (spec_pieces.l2 k7 a0 x4_7 x7_14 x8_49 x9_49 (x8_49.size : Int) (wrap64 (x113_7 + 1))) else (some (([] : List (S45)), 2))) = some (r1, r2) := H
                                                    have A59 := Aside0.mk A590
                                                    clear A590
                                                    by_cases c60 : t111 = true
                                                    · subst c60
                                                      have H1 : (spec_pieces.l2 k7 a0 x4_7 x7_14 x8_49 x9_49 (x8_49.size : Int) (wrap64 (x113_7 + 1))) = some (r1, r2) := by rw [if_pos rfl] at H; exact H
                                                      clear H
                                                      have H := H1
                                                      clear H1
                                                      have H' := Aside0.mk H
                                                      clear H
                                                      have p58 : 0 ≤ (x113_7 : Int) := of_decide_eq_true (by first | (with_reducible assumption) | assumption)
                                                      have q58 : x113_7 < (x8_49.size : Int) := of_decide_eq_true (by first | (with_reducible assumption) | assumption)
                                                      have hx58 := bt_at x8_49 x113_7
                                                      replace p58 := eq_true p58
                                                      replace q58 := eq_true q58
                                                      go_wp2_with (first | ((with_reducible refine gate_callee (f := 17) rfl ?_); refine goesL_ (some 119) rfl rfl Tryz.func17 (by kernel_rfl) rfl #[.int .u8 (bt x8_49 x113_7)] rfl (by (try simp only [List.map_toArray, List.map_cons, List.map_nil]); first | done | rfl | (simp only [List.length_drop, List.length_take]; rfl)) ?_; (with_reducible refine (spec_word.calls (bt x8_49 x113_7) true _ A59.out).mono ?_); rintro e w' ⟨rfl, ⟨nd, rfl⟩⟩; refine ⟨_, rfl, ?_⟩))
                                                      go_roundg k7
                                                      case measure => have := HK1.out; have := HJ7.out; have := HJ14.out; have := HJ22.out; have := HJ43.out; have := HJ49.out; have := HK7.out; omega
                                                      case rel => exact ⟨(wrap64 (x113_7 + 1)), (by first | rfl | (simp; done) | (simp [*]; done)), H', ⟨by have := HK1.out; have := HJ7.out; have := HJ14.out; have := HJ22.out; have := HJ43.out; have := HJ49.out; have := HK7.out; omega⟩, ⟨by (with_reducible repeat (first | apply Kd.R_alloc | apply Kd.R_drewN | apply Kd.R_drew)); exact HO_4.out⟩, ⟨by repeat (first | (with_reducible first | exact HB.out | apply below_alloc | apply pw_below_drewN | apply below_drew1) | exact HB.out)⟩⟩
                                                    · replace c60 := Bool.eq_false_iff.mpr c60
                                                      subst c60
                                                      have H1 : (some (([] : List (S45)), 2)) = some (r1, r2) := by rw [if_neg (show ¬ (false = true) by decide)] at H; exact H
                                                      clear H
                                                      have H := H1
                                                      clear H1
                                                      simp only [Option.some.injEq, Prod.mk.injEq] at H
                                                      obtain ⟨rfl, rfl⟩ := H
                                                      have p58 : 0 ≤ (x113_7 : Int) := of_decide_eq_true (by first | (with_reducible assumption) | assumption)
                                                      have q58 : x113_7 < (x8_49.size : Int) := of_decide_eq_true (by first | (with_reducible assumption) | assumption)
                                                      have hx58 := bt_at x8_49 x113_7
                                                      replace p58 := eq_true p58
                                                      replace q58 := eq_true q58
                                                      go_wp2_with (first | ((with_reducible refine gate_callee (f := 17) rfl ?_); refine goesL_ (some 119) rfl rfl Tryz.func17 (by kernel_rfl) rfl #[.int .u8 (bt x8_49 x113_7)] rfl (by (try simp only [List.map_toArray, List.map_cons, List.map_nil]); first | done | rfl | (simp only [List.length_drop, List.length_take]; rfl)) ?_; (with_reducible refine (spec_word.calls (bt x8_49 x113_7) false _ A59.out).mono ?_); rintro e w' ⟨rfl, ⟨nd, rfl⟩⟩; refine ⟨_, rfl, ?_⟩))
                                                      go_ret2
                                                      exact ⟨_, by first | rfl | (simp [errW_none, errW_some] <;> rfl) | (simp only [← hji40]; first | rfl | (simp [errW_none, errW_some] <;> rfl)) | (simp [*, errW_none, errW_some] <;> rfl), by first | exact Kd.R_nil _ _ _ _ _ | exact Kd.N_nil _ _ _ _ _ | exact Kd.V_nil _ _ _ _ _ | exact Kd.Q_nil _ _ _ _ _ | exact Kd.S_nil _ _ _ _ _, by repeat (first | (with_reducible first | exact HB.out | apply below_alloc | apply pw_below_drewN | apply below_drew1) | exact HB.out)⟩
                                                  · rw [if_neg c57] at H
                                                    exact absurd H (by simp)
                                                · rw [if_neg c56] at H
                                                  exact absurd H (by simp)
                                              · rw [if_neg c55] at H
                                                have c55b0 : decide (x113_7 < (x8_49.size : Int)) = false := decide_eq_false c55
                                                clear c55
                                                by_cases c61 : x8_49.toList = ([] : List UInt8)
                                                · rw [if_pos c61] at H
                                                  have c61b0 : (x8_49.toList == ([] : List UInt8)) = true := beq_iff_eq.mpr c61
                                                  have c61b1 : (x8_49.toList != ([] : List UInt8)) = false := bne_eq_false_iff_eq.mpr c61
                                                  clear c61
                                                  simp only [Option.some.injEq, Prod.mk.injEq] at H
                                                  obtain ⟨rfl, rfl⟩ := H
                                                  go_wp2
                                                  go_ret2
                                                  exact ⟨_, by first | rfl | (simp [errW_none, errW_some] <;> rfl) | (simp only [← hji40]; first | rfl | (simp [errW_none, errW_some] <;> rfl)) | (simp [*, errW_none, errW_some] <;> rfl), by first | exact Kd.R_nil _ _ _ _ _ | exact Kd.N_nil _ _ _ _ _ | exact Kd.V_nil _ _ _ _ _ | exact Kd.Q_nil _ _ _ _ _ | exact Kd.S_nil _ _ _ _ _, by repeat (first | (with_reducible first | exact HB.out | apply below_alloc | apply pw_below_drewN | apply below_drew1) | exact HB.out)⟩
                                                · rw [if_neg c61] at H
                                                  have c61b0 : (x8_49.toList == ([] : List UInt8)) = false := beq_eq_false_iff_ne.mpr c61
                                                  have c61b1 : (x8_49.toList != ([] : List UInt8)) = true := bne_iff_ne.mpr c61
                                                  by_cases c62 : x9_49 = 2
                                                  · rw [if_pos c62] at H
                                                    have c62b0 : (x9_49 == 2) = true := beq_iff_eq.mpr c62
                                                    have c62b1 : (x9_49 != 2) = false := bne_eq_false_iff_eq.mpr c62
                                                    clear c62
                                                    by_cases c63 : (wrap64 (x7_14 + 1)) < (a0.size : Int)
                                                    · rw [if_pos c63] at H
                                                      have c63b0 : decide ((wrap64 (x7_14 + 1)) < (a0.size : Int)) = true := decide_eq_true c63
                                                      clear c63
                                                      simp only [Option.some.injEq, Prod.mk.injEq] at H
                                                      obtain ⟨rfl, rfl⟩ := H
                                                      go_wp2
                                                      go_ret2
                                                      exact ⟨_, by first | rfl | (simp [errW_none, errW_some] <;> rfl) | (simp only [← hji40]; first | rfl | (simp [errW_none, errW_some] <;> rfl)) | (simp [*, errW_none, errW_some] <;> rfl), by first | exact Kd.R_nil _ _ _ _ _ | exact Kd.N_nil _ _ _ _ _ | exact Kd.V_nil _ _ _ _ _ | exact Kd.Q_nil _ _ _ _ _ | exact Kd.S_nil _ _ _ _ _, by repeat (first | (with_reducible first | exact HB.out | apply below_alloc | apply pw_below_drewN | apply below_drew1) | exact HB.out)⟩
                                                    · rw [if_neg c63] at H
                                                      have c63b0 : decide ((wrap64 (x7_14 + 1)) < (a0.size : Int)) = false := decide_eq_false c63
                                                      clear c63
                                                      by_cases c64 : x4_7.length < 5864062014805
                                                      · rw [if_pos c64] at H
                                                        have LMc64 := Aside0.mk c64
                                                        clear c64
                                                        obtain ⟨y112, hy112⟩ : ∃ y_ : List (S45), y_ = (x4_7 ++ [(⟨x8_49, x9_49⟩ : S45)]) := ⟨_, rfl⟩
                                                        replace H : (spec_pieces.l0 k7 a0 y112 (wrap64 (x7_14 + 1)) (wrap64 (x7_14 + 1))) = some (r1, r2) := by first | (rw [hy112]; with_reducible exact H) | (have H2_ := (Option.bind_some _ _).symm.trans H; rw [hy112]; with_reducible exact H2_) | (have H2_ := (Option.bind_some _ _).symm.trans H; with_reducible exact H2_) | with_reducible exact H | (rw [hy112]; exact H) | exact H
                                                        have Ny112 := Aside0.mk hy112
                                                        clear hy112
                                                        have H' := Aside0.mk H
                                                        clear H
                                                        go_wp2_with (first | ((with_reducible refine gate_builtin (b := .append) (xs := #[.tmp 135, .tmp 139]) rfl ?_); (try (refine gate_guard (by rfl) ?_; dsimp only)); at_builtin; refine Kd.R_append k45 (w0 := w) w.heap.size rfl (.tmp 135) (.tmp 139) 31 45 (.agg #[(.string ⟨#[]⟩), (.int .i64 0)]) 24 rfl Tryz.underlying31 info45 rfl (by decide) (by omega) u4 x4_7 (⟨x8_49, x9_49⟩ : S45) [.string x8_49, .int .i64 x9_49] (fun _ => True) (fun _ => False) rfl rfl ?aP (fun _ hk => hk.elim) ?aF ?aO ?aB ?aS ?aL ?_; (case aP => exact k45_mkM _ _ _ (⟨x8_49, x9_49⟩ : S45)); (case aB => exact (by repeat (first | (with_reducible first | exact HB.out | apply below_alloc | apply pw_below_drewN | apply below_drew1) | exact HB.out))); (case aF => exact (fun _ _ => trivial)); (case aO => exact (by (with_reducible repeat (first | apply Kd.R_alloc | apply Kd.R_drewN | apply Kd.R_drew)); exact HO_4.out)); (case aS => exact (below_size (by repeat (first | (with_reducible first | exact HB.out | apply below_alloc | apply pw_below_drewN | apply below_drew1) | exact HB.out)))); (case aL => have := LMc64.out; omega); intro v113 w65 ho hb hg hat; rw [← Ny112.out] at ho; have n0_ := Aside0.mk (hb); have n1_ := Aside0.mk (ho); clear HB; clear HO_4; have HB := n0_; have HO114 := n1_; clear n0_ n1_; clear ho hb hg hat))
                                                        go_roundg k7
                                                        case measure => have := HK1.out; have := HJ7.out; have := HJ14.out; have := HJ22.out; have := HJ43.out; have := HJ49.out; have := HK7.out; omega
                                                        case rel => exact ⟨(y112), (wrap64 (x7_14 + 1)), (wrap64 (x7_14 + 1)), (by first | rfl | (simp; done) | (simp [*]; done)), (by first | rfl | (simp; done) | (simp [*]; done)), H', ⟨by have := HK1.out; have := HJ7.out; have := HJ14.out; have := HJ22.out; have := HJ43.out; have := HJ49.out; have := HK7.out; omega⟩, ⟨by (with_reducible repeat (first | apply Kd.R_alloc | apply Kd.R_drewN | apply Kd.R_drew)); exact HO114.out⟩, ⟨by repeat (first | (with_reducible first | exact HB.out | apply below_alloc | apply pw_below_drewN | apply below_drew1) | exact HB.out)⟩⟩
                                                      · rw [if_neg c64] at H
                                                        exact absurd H (by simp)
                                                  · rw [if_neg c62] at H
                                                    have c62b0 : (x9_49 == 2) = false := beq_eq_false_iff_ne.mpr c62
                                                    have c62b1 : (x9_49 != 2) = true := bne_iff_ne.mpr c62
                                                    by_cases c66 : x4_7.length < 5864062014805
                                                    · rw [if_pos c66] at H
                                                      have LMc66 := Aside0.mk c66
                                                      clear c66
                                                      obtain ⟨y115, hy115⟩ : ∃ y_ : List (S45), y_ = (x4_7 ++ [(⟨x8_49, x9_49⟩ : S45)]) := ⟨_, rfl⟩
                                                      replace H : (spec_pieces.l0 k7 a0 y115 (wrap64 (x7_14 + 1)) (wrap64 (x7_14 + 1))) = some (r1, r2) := by first | (rw [hy115]; with_reducible exact H) | (have H2_ := (Option.bind_some _ _).symm.trans H; rw [hy115]; with_reducible exact H2_) | (have H2_ := (Option.bind_some _ _).symm.trans H; with_reducible exact H2_) | with_reducible exact H | (rw [hy115]; exact H) | exact H
                                                      have Ny115 := Aside0.mk hy115
                                                      clear hy115
                                                      have H' := Aside0.mk H
                                                      clear H
                                                      go_wp2_with (first | ((with_reducible refine gate_builtin (b := .append) (xs := #[.tmp 135, .tmp 139]) rfl ?_); (try (refine gate_guard (by rfl) ?_; dsimp only)); at_builtin; refine Kd.R_append k45 (w0 := w) w.heap.size rfl (.tmp 135) (.tmp 139) 31 45 (.agg #[(.string ⟨#[]⟩), (.int .i64 0)]) 24 rfl Tryz.underlying31 info45 rfl (by decide) (by omega) u4 x4_7 (⟨x8_49, x9_49⟩ : S45) [.string x8_49, .int .i64 x9_49] (fun _ => True) (fun _ => False) rfl rfl ?aP (fun _ hk => hk.elim) ?aF ?aO ?aB ?aS ?aL ?_; (case aP => exact k45_mkM _ _ _ (⟨x8_49, x9_49⟩ : S45)); (case aB => exact (by repeat (first | (with_reducible first | exact HB.out | apply below_alloc | apply pw_below_drewN | apply below_drew1) | exact HB.out))); (case aF => exact (fun _ _ => trivial)); (case aO => exact (by (with_reducible repeat (first | apply Kd.R_alloc | apply Kd.R_drewN | apply Kd.R_drew)); exact HO_4.out)); (case aS => exact (below_size (by repeat (first | (with_reducible first | exact HB.out | apply below_alloc | apply pw_below_drewN | apply below_drew1) | exact HB.out)))); (case aL => have := LMc66.out; omega); intro v116 w67 ho hb hg hat; rw [← Ny115.out] at ho; have n0_ := Aside0.mk (hb); have n1_ := Aside0.mk (ho); clear HB; clear HO_4; have HB := n0_; have HO117 := n1_; clear n0_ n1_; clear ho hb hg hat))
                                                      go_roundg k7
                                                      case measure => have := HK1.out; have := HJ7.out; have := HJ14.out; have := HJ22.out; have := HJ43.out; have := HJ49.out; have := HK7.out; omega
                                                      case rel => exact ⟨(y115), (wrap64 (x7_14 + 1)), (wrap64 (x7_14 + 1)), (by first | rfl | (simp; done) | (simp [*]; done)), (by first | rfl | (simp; done) | (simp [*]; done)), H', ⟨by have := HK1.out; have := HJ7.out; have := HJ14.out; have := HJ22.out; have := HJ43.out; have := HJ49.out; have := HK7.out; omega⟩, ⟨by (with_reducible repeat (first | apply Kd.R_alloc | apply Kd.R_drewN | apply Kd.R_drew)); exact HO117.out⟩, ⟨by repeat (first | (with_reducible first | exact HB.out | apply below_alloc | apply pw_below_drewN | apply below_drew1) | exact HB.out)⟩⟩
                                                    · rw [if_neg c66] at H
                                                      exact absurd H (by simp)
                                · rw [if_neg c43] at H
                                  exact absurd H (by simp)
                              · rw [if_neg c42] at H
                                exact absurd H (by simp)
                            · rw [if_neg c41] at H
                              exact absurd H (by simp)
            · rw [if_neg c7] at H
              have c7b0 : ((bt a0 x6_1) == 123) = false := beq_eq_false_iff_ne.mpr c7
              have c7b1 : ((bt a0 x6_1) != 123) = true := bne_iff_ne.mpr c7
              have H' := Aside0.mk H
              clear H
              have p4 : 0 ≤ (x6_1 : Int) := of_decide_eq_true (by first | (with_reducible assumption) | assumption)
              have q4 : x6_1 < (a0.size : Int) := of_decide_eq_true (by first | (with_reducible assumption) | assumption)
              have hx4 := bt_at a0 x6_1
              replace p4 := eq_true p4
              replace q4 := eq_true q4
              have p6 : 0 ≤ (x6_1 : Int) := of_decide_eq_true (by first | (with_reducible assumption) | assumption)
              have q6 : x6_1 < (a0.size : Int) := of_decide_eq_true (by first | (with_reducible assumption) | assumption)
              have hx6 := bt_at a0 x6_1
              replace p6 := eq_true p6
              replace q6 := eq_true q6
              go_wp2
              go_roundg k1
              case measure => have := HK1.out; omega
              case rel => exact ⟨(x4_1), (x5_1), (wrap64 (x6_1 + 1)), (by first | rfl | (simp; done) | (simp [*]; done)), (by first | rfl | (simp; done) | (simp [*]; done)), H', ⟨by have := HK1.out; omega⟩, ⟨by (with_reducible repeat (first | apply Kd.R_alloc | apply Kd.R_drewN | apply Kd.R_drew)); exact HO_4.out⟩, ⟨by repeat (first | (with_reducible first | exact HB.out | apply below_alloc | apply pw_below_drewN | apply below_drew1) | exact HB.out)⟩⟩
        · rw [if_neg c3] at H
          exact absurd H (by simp)
      · rw [if_neg c2] at H
        have c2b0 : decide (x6_1 < (a0.size : Int)) = false := decide_eq_false c2
        clear c2
        by_cases c68 : x5_1 < (a0.size : Int)
        · rw [if_pos c68] at H
          have c68b0 : decide (x5_1 < (a0.size : Int)) = true := decide_eq_true c68
          clear c68
          by_cases c69 : 0 ≤ x5_1
          · rw [if_pos c69] at H
            have c69b0 := eq_true c69
            have c69b1 : decide (0 ≤ x5_1) = true := decide_eq_true c69
            clear c69
            by_cases c70 : x5_1 ≤ (a0.size : Int)
            · rw [if_pos c70] at H
              have c70b0 := eq_true c70
              have c70b1 : decide (x5_1 ≤ (a0.size : Int)) = true := decide_eq_true c70
              clear c70
              by_cases c71 : x4_1.length < 5864062014805
              · rw [if_pos c71] at H
                have LMc71 := Aside0.mk c71
                clear c71
                obtain ⟨y104, hy104⟩ : ∃ y_ : List (S45), y_ = (x4_1 ++ [(⟨a0.extract (x5_1 : Int).toNat a0.size, 0⟩ : S45)]) := ⟨_, rfl⟩
                replace H : (some (y104, 1)) = some (r1, r2) := by first | (rw [hy104]; with_reducible exact H) | (have H2_ := (Option.bind_some _ _).symm.trans H; rw [hy104]; with_reducible exact H2_) | (have H2_ := (Option.bind_some _ _).symm.trans H; with_reducible exact H2_) | with_reducible exact H | (rw [hy104]; exact H) | exact H
                have Ny104 := Aside0.mk hy104
                clear hy104
                simp only [Option.some.injEq, Prod.mk.injEq] at H
                obtain ⟨rfl, rfl⟩ := H
                go_wp2_with (first | ((with_reducible refine gate_builtin (b := .append) (xs := #[.tmp 148, .tmp 153]) rfl ?_); (try (refine gate_guard (by rfl) ?_; dsimp only)); at_builtin; refine Kd.R_append k45 (w0 := w) w.heap.size rfl (.tmp 148) (.tmp 153) 31 45 (.agg #[(.string ⟨#[]⟩), (.int .i64 0)]) 24 rfl Tryz.underlying31 info45 rfl (by decide) (by omega) u4 x4_1 (⟨a0.extract (x5_1 : Int).toNat a0.size, 0⟩ : S45) [.string (a0.extract (x5_1 : Int).toNat a0.size), .int .i64 0] (fun _ => True) (fun _ => False) rfl rfl ?aP (fun _ hk => hk.elim) ?aF ?aO ?aB ?aS ?aL ?_; (case aP => exact k45_mkM _ _ _ (⟨a0.extract (x5_1 : Int).toNat a0.size, 0⟩ : S45)); (case aB => exact (by repeat (first | (with_reducible first | exact HB.out | apply below_alloc | apply pw_below_drewN | apply below_drew1) | exact HB.out))); (case aF => exact (fun _ _ => trivial)); (case aO => exact (by (with_reducible repeat (first | apply Kd.R_alloc | apply Kd.R_drewN | apply Kd.R_drew)); exact HO_4.out)); (case aS => exact (below_size (by repeat (first | (with_reducible first | exact HB.out | apply below_alloc | apply pw_below_drewN | apply below_drew1) | exact HB.out)))); (case aL => have := LMc71.out; omega); intro v105 w72 ho hb hg hat; rw [← Ny104.out] at ho; have n0_ := Aside0.mk (hb); have n1_ := Aside0.mk (ho); clear HB; clear HO_4; have HB := n0_; have HO106 := n1_; clear n0_ n1_; clear ho hb hg hat))
                go_ret2
                exact ⟨_, by first | rfl | (simp [errW_none, errW_some] <;> rfl) | (simp [*, errW_none, errW_some] <;> rfl), by (with_reducible repeat (first | apply Kd.R_alloc | apply Kd.R_drewN | apply Kd.R_drew)); exact HO106.out, by repeat (first | (with_reducible first | exact HB.out | apply below_alloc | apply pw_below_drewN | apply below_drew1) | exact HB.out)⟩
              · rw [if_neg c71] at H
                exact absurd H (by simp)
            · rw [if_neg c70] at H
              exact absurd H (by simp)
          · rw [if_neg c69] at H
            exact absurd H (by simp)
        · rw [if_neg c68] at H
          have c68b0 : decide (x5_1 < (a0.size : Int)) = false := decide_eq_false c68
          clear c68
          simp only [Option.some.injEq, Prod.mk.injEq] at H
          obtain ⟨rfl, rfl⟩ := H
          go_wp2
          go_ret2
          exact ⟨_, by first | rfl | (simp [errW_none, errW_some] <;> rfl) | (simp [*, errW_none, errW_some] <;> rfl), by (with_reducible repeat (first | apply Kd.R_alloc | apply Kd.R_drewN | apply Kd.R_drew)); exact HO_4.out, by repeat (first | (with_reducible first | exact HB.out | apply below_alloc | apply pw_below_drewN | apply below_drew1) | exact HB.out)⟩

end Go.Proofs.YtpdnjgbcnnjdiaaGreatDoor.PFnFind
