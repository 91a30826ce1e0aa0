/- spec.Match: as print.sh printed it, turned by wip/fixprint.py where it fell. -/
import Derived.Test.YtpdnjgbcnnjdiaaDoorPFnMatchx0
import Derived.Test.YtpdnjgbcnnjdiaaDoorPFnMatchx1
import Derived.Test.YtpdnjgbcnnjdiaaDoorFixPieces
import Derived.Test.YtpdnjgbcnnjdiaaDoorPFnMatchx3
import Derived.Test.YtpdnjgbcnnjdiaaDoorFixValues
import Derived.Test.YtpdnjgbcnnjdiaaDoorPFnMatchx6
namespace Go.Proofs.YtpdnjgbcnnjdiaaDoor.PFnMatch
open Go.RowKit Go.Proofs.YtpdnjgbcnnjdiaaDoorW.PrintWords Go.Proofs.YtpdnjgbcnnjdiaaDoorW.PrintLast Go.Proofs.YtpdnjgbcnnjdiaaDoorW.PrintMore
attribute [local go_sem] max2_int min2_int max_two min_two max_three min_three max_four min_four   -- for this text's walks alone
set_option linter.unusedVariables false
set_option linter.unusedSimpArgs false

/-! ### spec_Match: function 11 -/
mutual
def spec_Match.j0 : Nat → List ByteArray → ByteArray → ByteArray → List ByteArray → Bool → Option (ByteArray × List ByteArray × Bool × Int)
  | 0, _, _, _, _, _ => none
  | k + 1, x0, x1, x4, x5, x35 => if x35 = true then (some ((⟨#[]⟩ : ByteArray), ([] : List ByteArray), false, 2)) else (spec_Match.l0 k x0 x1 x4 x5 false 0 x0 (x0.length : Int) 0)
def spec_Match.l0 : Nat → List ByteArray → ByteArray → ByteArray → List ByteArray → Bool → Int → List ByteArray → Int → Int → Option (ByteArray × List ByteArray × Bool × Int)
  | 0, _, _, _, _, _, _, _, _, _ => none
  | k + 1, x0, x1, x4, x5, x8, x9, x36, x37, x38 => if x38 < x37 then (if 0 ≤ x38 then (if x38 < (x36.length : Int) then ((spec_pieces.f k (rdOf ByteArray.empty x36 x38)).bind fun bt171 => (if bt171.2 = 1 then (if ((rdOf ByteArray.empty x36 x38).size : Int) > 1 then (if 0 ≤ (wrap64 (((rdOf ByteArray.empty x36 x38).size : Int) - 1)) then (if (wrap64 (((rdOf ByteArray.empty x36 x38).size : Int) - 1)) < ((rdOf ByteArray.empty x36 x38).size : Int) then (if (bt (rdOf ByteArray.empty x36 x38) (wrap64 (((rdOf ByteArray.empty x36 x38).size : Int) - 1))) = 47 then (spec_Match.j2 k x0 x1 x4 x5 x8 x9 x38 (rdOf ByteArray.empty x36 x38) x36 x37 x38 true) else ((spec_hollow.f k (rdOf ByteArray.empty x36 x38)).bind fun t175 => (spec_Match.j2 k x0 x1 x4 x5 x8 x9 x38 (rdOf ByteArray.empty x36 x38) x36 x37 x38 t175))) else (none)) else (none)) else ((spec_hollow.f k (rdOf ByteArray.empty x36 x38)).bind fun t176 => (spec_Match.j2 k x0 x1 x4 x5 x8 x9 x38 (rdOf ByteArray.empty x36 x38) x36 x37 x38 t176))) else (spec_Match.j2 k x0 x1 x4 x5 x8 x9 x38 (rdOf ByteArray.empty x36 x38) x36 x37 x38 true))) else (none)) else (none)) else (if x9 > 1 then (if x8 = true then ((spec_Concrete.f k x4).bind fun t190 => (if t190 = true then ((spec_stripped.f x4).bind fun t191 => ((spec_stripped.f x1).bind fun t192 => (if t191.toList = t192.toList then (some (x4, x5, decide (x9 > 0), 1)) else (some ((⟨#[]⟩ : ByteArray), ([] : List ByteArray), false, 2))))) else (some ((⟨#[]⟩ : ByteArray), ([] : List ByteArray), false, 2)))) else (some (x4, x5, decide (x9 > 0), 1))) else (some (x4, x5, decide (x9 > 0), 1)))
def spec_Match.j2 : Nat → List ByteArray → ByteArray → ByteArray → List ByteArray → Bool → Int → Int → ByteArray → List ByteArray → Int → Int → Bool → Option (ByteArray × List ByteArray × Bool × Int)
  | 0, _, _, _, _, _, _, _, _, _, _, _, _ => none
  | k + 1, x0, x1, x4, x5, x8, x9, x10, x11, x36, x37, x38, x66 => if x66 = true then (some ((⟨#[]⟩ : ByteArray), ([] : List ByteArray), false, 2)) else (if 0 ≤ x10 then (if x10 ≤ (x0.length : Int) then (spec_Match.l1 k x0 x1 x4 x5 x8 x9 x11 x36 x37 x38 (x0.take (x10 : Int).toNat) ((x0.take (x10 : Int).toNat).length : Int) 0) else (none)) else (none))
def spec_Match.l1 : Nat → List ByteArray → ByteArray → ByteArray → List ByteArray → Bool → Int → ByteArray → List ByteArray → Int → Int → List ByteArray → Int → Int → Option (ByteArray × List ByteArray × Bool × Int)
  | 0, _, _, _, _, _, _, _, _, _, _, _, _, _ => none
  | k + 1, x0, x1, x4, x5, x8, x9, x11, x36, x37, x38, x69, x70, x71 => if x71 < x70 then (if 0 ≤ x71 then (if x71 < (x69.length : Int) then ((spec_stripped.f x11).bind fun t179 => ((spec_plainPath.f k t179).bind fun t180 => ((spec_stripped.f (rdOf ByteArray.empty x69 x71)).bind fun t181 => ((spec_plainPath.f k t181).bind fun t182 => (if t180.toList = t182.toList then (some ((⟨#[]⟩ : ByteArray), ([] : List ByteArray), false, 2)) else (spec_Match.l1 k x0 x1 x4 x5 x8 x9 x11 x36 x37 x38 x69 x70 (wrap64 (x71 + 1)))))))) else (none)) else (none)) else ((spec_values.f k x11 x1).bind fun bt183 => (if bt183.2.2 = 1 then (if bt183.2.1 = true then (spec_Match.l2 k x0 x1 x4 x5 x8 (wrap64 (x9 + 1)) x11 bt183.1 x36 x37 x38 bt183.1 (bt183.1.length : Int) 0) else (spec_Match.l0 k x0 x1 x4 x5 x8 x9 x36 x37 (wrap64 (x38 + 1)))) else (some ((⟨#[]⟩ : ByteArray), ([] : List ByteArray), false, 2))))
def spec_Match.l2 : Nat → List ByteArray → ByteArray → ByteArray → List ByteArray → Bool → Int → ByteArray → List ByteArray → List ByteArray → Int → Int → List ByteArray → Int → Int → Option (ByteArray × List ByteArray × Bool × Int)
  | 0, _, _, _, _, _, _, _, _, _, _, _, _, _, _ => none
  | k + 1, x0, x1, x4, x5, x8, x9, x11, x16, x36, x37, x38, x96, x97, x98 => if x98 < x97 then (if 0 ≤ x98 then (if x98 < (x96.length : Int) then (if x8 = true then (spec_Match.l2 k x0 x1 x4 x5 true x9 x11 x16 x36 x37 x38 x96 x97 (wrap64 (x98 + 1))) else (spec_Match.l2 k x0 x1 x4 x5 ((rdOf ByteArray.empty x96 x98).toList == ([] : List UInt8)) x9 x11 x16 x36 x37 x38 x96 x97 (wrap64 (x98 + 1)))) else (none)) else (none)) else (if x9 = 1 then (spec_Match.l0 k x0 x1 x11 x16 x8 x9 x36 x37 (wrap64 (x38 + 1))) else ((spec_ahead.f k x11 x4).bind fun t189 => (if t189 = true then (spec_Match.l0 k x0 x1 x11 x16 x8 x9 x36 x37 (wrap64 (x38 + 1))) else (spec_Match.l0 k x0 x1 x4 x5 x8 x9 x36 x37 (wrap64 (x38 + 1))))))
end
def spec_Match.f (k : Nat) (l0 : List ByteArray) (a1 : ByteArray) : Option (ByteArray × List ByteArray × Bool × Int) := if a1.toList = ([] : List UInt8) then (spec_Match.j0 k l0 a1 (⟨#[]⟩ : ByteArray) ([] : List ByteArray) true) else (if (a1.size : Int) > 1 then (if 0 ≤ (wrap64 ((a1.size : Int) - 2)) then (if (wrap64 ((a1.size : Int) - 2)) ≤ (a1.size : Int) then (spec_Match.j0 k l0 a1 (⟨#[]⟩ : ByteArray) ([] : List ByteArray) ((a1.extract ((wrap64 ((a1.size : Int) - 2)) : Int).toNat a1.size).toList == ([47, 47] : List UInt8))) else (none)) else (none)) else (spec_Match.j0 k l0 a1 (⟨#[]⟩ : ByteArray) ([] : List ByteArray) false))
theorem spec_Match.mono_l : ∀ k, (∀ y0 y1 y2 y3 y4, LeO (spec_Match.j0 k y0 y1 y2 y3 y4) (spec_Match.j0 (k + 1) y0 y1 y2 y3 y4)) ∧ (∀ y0 y1 y2 y3 y4 y5 y6 y7 y8, LeO (spec_Match.l0 k y0 y1 y2 y3 y4 y5 y6 y7 y8) (spec_Match.l0 (k + 1) y0 y1 y2 y3 y4 y5 y6 y7 y8)) ∧ (∀ y0 y1 y2 y3 y4 y5 y6 y7 y8 y9 y10 y11, LeO (spec_Match.j2 k y0 y1 y2 y3 y4 y5 y6 y7 y8 y9 y10 y11) (spec_Match.j2 (k + 1) y0 y1 y2 y3 y4 y5 y6 y7 y8 y9 y10 y11)) ∧ (∀ y0 y1 y2 y3 y4 y5 y6 y7 y8 y9 y10 y11 y12, LeO (spec_Match.l1 k y0 y1 y2 y3 y4 y5 y6 y7 y8 y9 y10 y11 y12) (spec_Match.l1 (k + 1) y0 y1 y2 y3 y4 y5 y6 y7 y8 y9 y10 y11 y12)) ∧ (∀ y0 y1 y2 y3 y4 y5 y6 y7 y8 y9 y10 y11 y12 y13, LeO (spec_Match.l2 k y0 y1 y2 y3 y4 y5 y6 y7 y8 y9 y10 y11 y12 y13) (spec_Match.l2 (k + 1) y0 y1 y2 y3 y4 y5 y6 y7 y8 y9 y10 y11 y12 y13))
  | 0 => ⟨fun _ _ _ _ _ r h => by simp [spec_Match.j0] at h, fun _ _ _ _ _ _ _ _ _ r h => by simp [spec_Match.l0] at h, fun _ _ _ _ _ _ _ _ _ _ _ _ r h => by simp [spec_Match.j2] at h, fun _ _ _ _ _ _ _ _ _ _ _ _ _ r h => by simp [spec_Match.l1] at h, fun _ _ _ _ _ _ _ _ _ _ _ _ _ _ r h => by simp [spec_Match.l2] at h⟩
  | k + 1 => by
    obtain ⟨ih0, ih1, ih2, ih3, ih4⟩ := spec_Match.mono_l k
    refine ⟨?_, ?_, ?_, ?_, ?_⟩
    · intro y0 y1 y2 y3 y4
      unfold spec_Match.j0
      repeat' first
      | (with_reducible exact ih0 _ _ _ _ _)
      | (with_reducible exact ih1 _ _ _ _ _ _ _ _ _)
      | (with_reducible exact ih2 _ _ _ _ _ _ _ _ _ _ _ _)
      | (with_reducible exact ih3 _ _ _ _ _ _ _ _ _ _ _ _ _)
      | (with_reducible exact ih4 _ _ _ _ _ _ _ _ _ _ _ _ _ _)
      | (with_reducible exact spec_Concrete.mono _ _)
      | (with_reducible exact spec_ahead.mono _ _ _)
      | (with_reducible exact spec_hollow.mono _ _)
      | (with_reducible exact spec_pieces.mono _ _)
      | (with_reducible exact spec_plainPath.mono _ _)
      | (with_reducible exact spec_values.mono _ _ _)
      | (with_reducible exact LeO.refl _)
      | (with_reducible exact LeO.none _)
      | (with_reducible refine LeO.ite ?_ ?_)
      | (with_reducible refine LeO.bind ?_ (fun _ => ?_))
      | exact ih0 _ _ _ _ _
      | exact ih1 _ _ _ _ _ _ _ _ _
      | exact ih2 _ _ _ _ _ _ _ _ _ _ _ _
      | exact ih3 _ _ _ _ _ _ _ _ _ _ _ _ _
      | exact ih4 _ _ _ _ _ _ _ _ _ _ _ _ _ _
      | exact spec_Concrete.mono _ _
      | exact spec_ahead.mono _ _ _
      | exact spec_hollow.mono _ _
      | exact spec_pieces.mono _ _
      | exact spec_plainPath.mono _ _
      | exact spec_values.mono _ _ _
      | exact LeO.none _
      | refine LeO.ite ?_ ?_
      | refine LeO.bind ?_ (fun _ => ?_)
    · intro y0 y1 y2 y3 y4 y5 y6 y7 y8
      unfold spec_Match.l0
      repeat' first
      | (with_reducible exact ih0 _ _ _ _ _)
      | (with_reducible exact ih1 _ _ _ _ _ _ _ _ _)
      | (with_reducible exact ih2 _ _ _ _ _ _ _ _ _ _ _ _)
      | (with_reducible exact ih3 _ _ _ _ _ _ _ _ _ _ _ _ _)
      | (with_reducible exact ih4 _ _ _ _ _ _ _ _ _ _ _ _ _ _)
      | (with_reducible exact spec_Concrete.mono _ _)
      | (with_reducible exact spec_ahead.mono _ _ _)
      | (with_reducible exact spec_hollow.mono _ _)
      | (with_reducible exact spec_pieces.mono _ _)
      | (with_reducible exact spec_plainPath.mono _ _)
      | (with_reducible exact spec_values.mono _ _ _)
      | (with_reducible exact LeO.refl _)
      | (with_reducible exact LeO.none _)
      | (with_reducible refine LeO.ite ?_ ?_)
      | (with_reducible refine LeO.bind ?_ (fun _ => ?_))
      | exact ih0 _ _ _ _ _
      | exact ih1 _ _ _ _ _ _ _ _ _
      | exact ih2 _ _ _ _ _ _ _ _ _ _ _ _
      | exact ih3 _ _ _ _ _ _ _ _ _ _ _ _ _
      | exact ih4 _ _ _ _ _ _ _ _ _ _ _ _ _ _
      | exact spec_Concrete.mono _ _
      | exact spec_ahead.mono _ _ _
      | exact spec_hollow.mono _ _
      | exact spec_pieces.mono _ _
      | exact spec_plainPath.mono _ _
      | exact spec_values.mono _ _ _
      | exact LeO.none _
      | refine LeO.ite ?_ ?_
      | refine LeO.bind ?_ (fun _ => ?_)
    · intro y0 y1 y2 y3 y4 y5 y6 y7 y8 y9 y10 y11
      unfold spec_Match.j2
      repeat' first
      | (with_reducible exact ih0 _ _ _ _ _)
      | (with_reducible exact ih1 _ _ _ _ _ _ _ _ _)
      | (with_reducible exact ih2 _ _ _ _ _ _ _ _ _ _ _ _)
      | (with_reducible exact ih3 _ _ _ _ _ _ _ _ _ _ _ _ _)
      | (with_reducible exact ih4 _ _ _ _ _ _ _ _ _ _ _ _ _ _)
      | (with_reducible exact spec_Concrete.mono _ _)
      | (with_reducible exact spec_ahead.mono _ _ _)
      | (with_reducible exact spec_hollow.mono _ _)
      | (with_reducible exact spec_pieces.mono _ _)
      | (with_reducible exact spec_plainPath.mono _ _)
      | (with_reducible exact spec_values.mono _ _ _)
      | (with_reducible exact LeO.refl _)
      | (with_reducible exact LeO.none _)
      | (with_reducible refine LeO.ite ?_ ?_)
      | (with_reducible refine LeO.bind ?_ (fun _ => ?_))
      | exact ih0 _ _ _ _ _
      | exact ih1 _ _ _ _ _ _ _ _ _
      | exact ih2 _ _ _ _ _ _ _ _ _ _ _ _
      | exact ih3 _ _ _ _ _ _ _ _ _ _ _ _ _
      | exact ih4 _ _ _ _ _ _ _ _ _ _ _ _ _ _
      | exact spec_Concrete.mono _ _
      | exact spec_ahead.mono _ _ _
      | exact spec_hollow.mono _ _
      | exact spec_pieces.mono _ _
      | exact spec_plainPath.mono _ _
      | exact spec_values.mono _ _ _
      | exact LeO.none _
      | refine LeO.ite ?_ ?_
      | refine LeO.bind ?_ (fun _ => ?_)
    · intro y0 y1 y2 y3 y4 y5 y6 y7 y8 y9 y10 y11 y12
      unfold spec_Match.l1
      repeat' first
      | (with_reducible exact ih0 _ _ _ _ _)
      | (with_reducible exact ih1 _ _ _ _ _ _ _ _ _)
      | (with_reducible exact ih2 _ _ _ _ _ _ _ _ _ _ _ _)
      | (with_reducible exact ih3 _ _ _ _ _ _ _ _ _ _ _ _ _)
      | (with_reducible exact ih4 _ _ _ _ _ _ _ _ _ _ _ _ _ _)
      | (with_reducible exact spec_Concrete.mono _ _)
      | (with_reducible exact spec_ahead.mono _ _ _)
      | (with_reducible exact spec_hollow.mono _ _)
      | (with_reducible exact spec_pieces.mono _ _)
      | (with_reducible exact spec_plainPath.mono _ _)
      | (with_reducible exact spec_values.mono _ _ _)
      | (with_reducible exact LeO.refl _)
      | (with_reducible exact LeO.none _)
      | (with_reducible refine LeO.ite ?_ ?_)
      | (with_reducible refine LeO.bind ?_ (fun _ => ?_))
      | exact ih0 _ _ _ _ _
      | exact ih1 _ _ _ _ _ _ _ _ _
      | exact ih2 _ _ _ _ _ _ _ _ _ _ _ _
      | exact ih3 _ _ _ _ _ _ _ _ _ _ _ _ _
      | exact ih4 _ _ _ _ _ _ _ _ _ _ _ _ _ _
      | exact spec_Concrete.mono _ _
      | exact spec_ahead.mono _ _ _
      | exact spec_hollow.mono _ _
      | exact spec_pieces.mono _ _
      | exact spec_plainPath.mono _ _
      | exact spec_values.mono _ _ _
      | exact LeO.none _
      | refine LeO.ite ?_ ?_
      | refine LeO.bind ?_ (fun _ => ?_)
    · intro y0 y1 y2 y3 y4 y5 y6 y7 y8 y9 y10 y11 y12 y13
      unfold spec_Match.l2
      repeat' first
      | (with_reducible exact ih0 _ _ _ _ _)
      | (with_reducible exact ih1 _ _ _ _ _ _ _ _ _)
      | (with_reducible exact ih2 _ _ _ _ _ _ _ _ _ _ _ _)
      | (with_reducible exact ih3 _ _ _ _ _ _ _ _ _ _ _ _ _)
      | (with_reducible exact ih4 _ _ _ _ _ _ _ _ _ _ _ _ _ _)
      | (with_reducible exact spec_Concrete.mono _ _)
      | (with_reducible exact spec_ahead.mono _ _ _)
      | (with_reducible exact spec_hollow.mono _ _)
      | (with_reducible exact spec_pieces.mono _ _)
      | (with_reducible exact spec_plainPath.mono _ _)
      | (with_reducible exact spec_values.mono _ _ _)
      | (with_reducible exact LeO.refl _)
      | (with_reducible exact LeO.none _)
      | (with_reducible refine LeO.ite ?_ ?_)
      | (with_reducible refine LeO.bind ?_ (fun _ => ?_))
      | exact ih0 _ _ _ _ _
      | exact ih1 _ _ _ _ _ _ _ _ _
      | exact ih2 _ _ _ _ _ _ _ _ _ _ _ _
      | exact ih3 _ _ _ _ _ _ _ _ _ _ _ _ _
      | exact ih4 _ _ _ _ _ _ _ _ _ _ _ _ _ _
      | exact spec_Concrete.mono _ _
      | exact spec_ahead.mono _ _ _
      | exact spec_hollow.mono _ _
      | exact spec_pieces.mono _ _
      | exact spec_plainPath.mono _ _
      | exact spec_values.mono _ _ _
      | exact LeO.none _
      | refine LeO.ite ?_ ?_
      | refine LeO.bind ?_ (fun _ => ?_)
theorem spec_Match.mono : ∀ a0 a1 k, LeO (spec_Match.f k a0 a1) (spec_Match.f (k + 1) a0 a1) := by
  intro a0 a1 k
  obtain ⟨ih0, ih1, ih2, ih3, ih4⟩ := spec_Match.mono_l k
  unfold spec_Match.f
  repeat' first
      | (with_reducible exact ih0 _ _ _ _ _)
      | (with_reducible exact ih1 _ _ _ _ _ _ _ _ _)
      | (with_reducible exact ih2 _ _ _ _ _ _ _ _ _ _ _ _)
      | (with_reducible exact ih3 _ _ _ _ _ _ _ _ _ _ _ _ _)
      | (with_reducible exact ih4 _ _ _ _ _ _ _ _ _ _ _ _ _ _)
      | (with_reducible exact spec_Concrete.mono _ _)
      | (with_reducible exact spec_ahead.mono _ _ _)
      | (with_reducible exact spec_hollow.mono _ _)
      | (with_reducible exact spec_pieces.mono _ _)
      | (with_reducible exact spec_plainPath.mono _ _)
      | (with_reducible exact spec_values.mono _ _ _)
      | (with_reducible exact LeO.refl _)
      | (with_reducible exact LeO.none _)
      | (with_reducible refine LeO.ite ?_ ?_)
      | (with_reducible refine LeO.bind ?_ (fun _ => ?_))
      | exact ih0 _ _ _ _ _
      | exact ih1 _ _ _ _ _ _ _ _ _
      | exact ih2 _ _ _ _ _ _ _ _ _ _ _ _
      | exact ih3 _ _ _ _ _ _ _ _ _ _ _ _ _
      | exact ih4 _ _ _ _ _ _ _ _ _ _ _ _ _ _
      | exact spec_Concrete.mono _ _
      | exact spec_ahead.mono _ _ _
      | exact spec_hollow.mono _ _
      | exact spec_pieces.mono _ _
      | exact spec_plainPath.mono _ _
      | exact spec_values.mono _ _ _
      | exact LeO.none _
      | refine LeO.ite ?_ ?_
      | refine LeO.bind ?_ (fun _ => ?_)
set_option maxHeartbeats 8000000 in
set_option maxRecDepth 100000 in
theorem spec_Match.calls (k : Nat) (A0 : Option Addr) (c0 : Nat) (l0 : List ByteArray) (a1 : ByteArray) (r1 : ByteArray) (r2 : List ByteArray) (r3 : Bool) (r4 : Int) (w : World) (hr0 : Kd.C Kd.string w A0 l0.length l0) (hc0 : l0.length ≤ c0) (h : spec_Match.f k l0 a1 = some (r1, r2, r3, r4)) :
    Calls Tryd.prog 11 #[.slice A0 l0.length c0, .string a1] w fun e w' => ∃ v1_ : Value, e = .returned (.tuple #[.string r1, v1_, .bool r3, .int .i64 r4]) ∧ Kd.R Kd.string 9 w' w.heap.size (fun _ => True) v1_ r2 ∧ Below w.heap.size w w' := by
  have HR0 := Aside0.mk hr0
  have HC0 := Aside0.mk hc0
  clear hr0 hc0
  have HB := Aside0.mk (Below.refl w.heap.size w)
  have H : (if a1.toList = ([] : List UInt8) then (spec_Match.j0 k l0 a1 (⟨#[]⟩ : ByteArray) ([] : List ByteArray) true) else (if (a1.size : Int) > 1 then (if 0 ≤ (wrap64 ((a1.size : Int) - 2)) then (if (wrap64 ((a1.size : Int) - 2)) ≤ (a1.size : Int) then (spec_Match.j0 k l0 a1 (⟨#[]⟩ : ByteArray) ([] : List ByteArray) ((a1.extract ((wrap64 ((a1.size : Int) - 2)) : Int).toNat a1.size).toList == ([47, 47] : List UInt8))) else (none)) else (none)) else (spec_Match.j0 k l0 a1 (⟨#[]⟩ : ByteArray) ([] : List ByteArray) false))) = some (r1, r2, r3, r4) := h
  clear h
  have HC3 := Aside0.mk H
  clear H
  go_enter Tryd.func11, Tryd.ntmps11
  go_upto_region 1 with (fail)
  go_cut [35] (fun v35 wc => ∃ (kq : Nat) (x35_2 : Bool), v35 = .bool x35_2 ∧ Aside0 (spec_Match.j0 kq l0 a1 (⟨#[]⟩ : ByteArray) ([] : List ByteArray) x35_2 = some (r1, r2, r3, r4)) ∧ Aside0 (kq ≤ k) ∧ Aside0 (Kd.R Kd.string 9 wc w.heap.size (fun _ => True) (.slice none 0 0) ([] : List ByteArray)) ∧ Aside0 (Below w.heap.size w wc))
  case first =>
    have H := HC3.out
    clear HC3
    by_cases c4 : a1.toList = ([] : List UInt8)
    · rw [if_pos c4] at H
      have c4b0 : (a1.toList == ([] : List UInt8)) = true := beq_iff_eq.mpr c4
      have c4b1 : (a1.toList != ([] : List UInt8)) = false := bne_eq_false_iff_eq.mpr c4
      clear c4
      (first | rw [c4b0] | (simp only [i64_w, i32_w]; rw [c4b0]) | skip)
      have H' := Aside0.mk H
      clear H
      go_wp2
      go_meet
      case rel => exact ⟨_, (true), (by first | rfl | (simp; done) | (simp [*]; done)), H', ⟨by first | omega | exact Nat.le_refl _⟩, ⟨by first | exact Kd.R_nil _ _ _ _ _ | exact Kd.N_nil _ _ _ _ _ | exact Kd.V_nil _ _ _ _ _ | exact Kd.Q_nil _ _ _ _ _ | exact Kd.S_nil _ _ _ _ _⟩, ⟨by repeat (first | (with_reducible first | exact HB.out | apply below_alloc | apply pw_below_drewN | apply below_drew1) | exact HB.out)⟩⟩
    · rw [if_neg c4] at H
      have c4b0 : (a1.toList == ([] : List UInt8)) = false := beq_eq_false_iff_ne.mpr c4
      have c4b1 : (a1.toList != ([] : List UInt8)) = true := bne_iff_ne.mpr c4
      (first | rw [c4b0] | (simp only [i64_w, i32_w]; rw [c4b0]) | skip)
      by_cases c5 : (a1.size : Int) > 1
      · rw [if_pos c5] at H
        have c5b0 : decide (1 < (a1.size : Int)) = true := decide_eq_true c5
        have c5b1 : decide (1 < a1.size) = true := decide_eq_true (by omega)
        clear c5
        obtain ⟨ji6, hji6⟩ : ∃ j_ : Int, (wrap64 ((a1.size : Int) - 2)) = j_ := ⟨_, rfl⟩
        replace H : (if 0 ≤ (ji6) then (if (ji6) ≤ (a1.size : Int) then (spec_Match.j0 k l0 a1 (⟨#[]⟩ : ByteArray) ([] : List ByteArray) ((a1.extract ((ji6) : Int).toNat a1.size).toList == ([47, 47] : List UInt8))) else (none)) else (none)) = some (r1, r2, r3, r4) := by first | (rw [hji6] at H; exact H) | (simp only [hji6] at H ⊢; exact H)
        have hji6w : (IntKind.i64.wrap ((a1.size : Int) - 2)) = ji6 := (i64_w _).trans hji6
        by_cases c7 : 0 ≤ (ji6)
        · rw [if_pos c7] at H
          have c7b0 := eq_true c7
          have c7b1 : decide (0 ≤ (ji6)) = true := decide_eq_true c7
          clear c7
          by_cases c8 : (ji6) ≤ (a1.size : Int)
          · rw [if_pos c8] at H
            have c8b0 := eq_true c8
            have c8b1 : decide ((ji6) ≤ (a1.size : Int)) = true := decide_eq_true c8
            clear c8
            have H' := Aside0.mk H
            clear H
            go_wp2
            go_meet
            case rel => exact ⟨_, (((a1.extract ((ji6) : Int).toNat a1.size).toList == ([47, 47] : List UInt8))), (by first | rfl | (simp; done) | (simp only [← hji6] <;> (first | rfl | simp)) | (simp [*]; done)), H', ⟨by first | omega | exact Nat.le_refl _⟩, ⟨by first | exact Kd.R_nil _ _ _ _ _ | exact Kd.N_nil _ _ _ _ _ | exact Kd.V_nil _ _ _ _ _ | exact Kd.Q_nil _ _ _ _ _ | exact Kd.S_nil _ _ _ _ _⟩, ⟨by repeat (first | (with_reducible first | exact HB.out | apply below_alloc | apply pw_below_drewN | apply below_drew1) | exact HB.out)⟩⟩
          · rw [if_neg c8] at H
            exact absurd H (by simp)
        · rw [if_neg c7] at H
          exact absurd H (by simp)
      · rw [if_neg c5] at H
        have c5b0 : decide (1 < (a1.size : Int)) = false := decide_eq_false c5
        have c5b1 : decide (1 < a1.size) = false := decide_eq_false (by omega)
        clear c5
        have H' := Aside0.mk H
        clear H
        go_wp2
        go_meet
        case rel => exact ⟨_, (false), (by first | rfl | (simp; done) | (simp [*]; done)), H', ⟨by first | omega | exact Nat.le_refl _⟩, ⟨by first | exact Kd.R_nil _ _ _ _ _ | exact Kd.N_nil _ _ _ _ _ | exact Kd.V_nil _ _ _ _ _ | exact Kd.Q_nil _ _ _ _ _ | exact Kd.S_nil _ _ _ _ _⟩, ⟨by repeat (first | (with_reducible first | exact HB.out | apply below_alloc | apply pw_below_drewN | apply below_drew1) | exact HB.out)⟩⟩
  case rest =>
    clear HC3
    try clear c1
    try clear p2
    try clear c4
    try clear c4b0
    try clear c4b1
    try clear c5
    try clear c5b0
    try clear c5b1
    try clear p6
    try clear c7
    try clear c7b0
    try clear c7b1
    try clear c8
    try clear c8b0
    try clear c8b1
    obtain ⟨kq, x35_2, rfl, HA, HJ2, HO_5, HB⟩ := hcut
    cases kq with
    | zero => exact absurd HA.out (by simp [spec_Match.j0])
    | succ kj2 =>
      have H := HA.out
      clear HA
      simp only [spec_Match.j0] at H
      by_cases c9 : x35_2 = true
      · subst c9
        have H1 : (some ((⟨#[]⟩ : ByteArray), ([] : List ByteArray), false, 2)) = some (r1, r2, r3, r4) := by rw [if_pos rfl] at H; exact H
        clear H
        have H := H1
        clear H1
        simp only [Option.some.injEq, Prod.mk.injEq] at H
        obtain ⟨rfl, rfl, rfl, rfl⟩ := H
        go_wp2
        refine bodyPost_ret (results_list (rs := [.tmp 4, .tmp 5, .tmp 6, .tmp 7]) rfl (by simp) (.tmp (.tmp (.tmp (.tmp .nil))))) rfl ?_
        exact ⟨_, by first | rfl | (simp [errW_none, errW_some] <;> rfl) | (simp [*, errW_none, errW_some] <;> rfl), by first | exact Kd.R_nil _ _ _ _ _ | exact Kd.N_nil _ _ _ _ _ | exact Kd.V_nil _ _ _ _ _ | exact Kd.Q_nil _ _ _ _ _ | exact Kd.S_nil _ _ _ _ _, by repeat (first | (with_reducible first | exact HB.out | apply below_alloc | apply pw_below_drewN | apply below_drew1) | exact HB.out)⟩
      · replace c9 := Bool.eq_false_iff.mpr c9
        subst c9
        have H1 : (spec_Match.l0 kj2 l0 a1 (⟨#[]⟩ : ByteArray) ([] : List ByteArray) false 0 l0 (l0.length : Int) 0) = some (r1, r2, r3, r4) := by rw [if_neg (show ¬ (false = true) by decide)] at H; exact H
        clear H
        have H := H1
        clear H1
        have H' := Aside0.mk H
        clear H
        go_wp2
        go_loopg [4, 5, 8, 9, 38] kj2 (fun kq v4 v5 v8 v9 v38 w' => ∃ (x4_2 : ByteArray) (x5_2 : List ByteArray) (x8_2 : Bool) (x9_2 : Int) (x38_2 : Int), v4 = .string x4_2 ∧ v8 = .bool x8_2 ∧ v9 = .int .i64 x9_2 ∧ v38 = .int .i64 x38_2 ∧ Aside0 (spec_Match.l0 kq l0 a1 x4_2 x5_2 x8_2 x9_2 l0 (l0.length : Int) x38_2 = some (r1, r2, r3, r4)) ∧ Aside0 (kq ≤ kj2) ∧ Aside0 (Kd.R Kd.string 9 w' w.heap.size (fun _ => True) v5 x5_2) ∧ Aside0 (Below w.heap.size w w'))
        case atStart => exact ⟨((⟨#[]⟩ : ByteArray)), (([] : List ByteArray)), (false), (0), (0), (by first | rfl | (simp; done) | (simp [*]; done)), (by first | rfl | (simp; done) | (simp [*]; done)), (by first | rfl | (simp; done) | (simp [*]; done)), (by first | rfl | (simp; done) | (simp [*]; done)), H', ⟨Nat.le_refl _⟩, ⟨by (with_reducible repeat (first | apply Kd.R_alloc | apply Kd.R_drewN | apply Kd.R_drew)); exact HO_5.out⟩, ⟨by repeat (first | (with_reducible first | exact HB.out | apply below_alloc | apply pw_below_drewN | apply below_drew1) | exact HB.out)⟩⟩
        case round =>
          clear H'
          try clear c1
          try clear p2
          try clear c4
          try clear c4b0
          try clear c4b1
          try clear c5
          try clear c5b0
          try clear c5b1
          try clear p6
          try clear c7
          try clear c7b0
          try clear c7b1
          try clear c8
          try clear c8b0
          try clear c8b1
          try clear c9
          try clear p2
          try clear p6
          obtain ⟨x4_2, x5_2, x8_2, x9_2, x38_2, rfl, rfl, rfl, rfl, HA, HK2, HO_5, HB⟩ := hrel
          cases gk with
          | zero => exact absurd HA.out (by simp [spec_Match.l0])
          | succ k2 =>
            have H := HA.out
            clear HA
            simp only [spec_Match.l0] at H
            by_cases c10 : x38_2 < (l0.length : Int)
            · rw [if_pos c10] at H
              have c10b0 : decide (x38_2 < (l0.length : Int)) = true := decide_eq_true c10
              clear c10
              by_cases c11 : 0 ≤ x38_2
              · rw [if_pos c11] at H
                have c11b0 : decide (0 ≤ x38_2) = true := decide_eq_true c11
                clear c11
                by_cases c12 : x38_2 < (l0.length : Int)
                · rw [if_pos c12] at H
                  have c12b0 : decide (x38_2 < (l0.length : Int)) = true := decide_eq_true c12
                  clear c12
                  replace H := Option.bind_eq_some_iff.mp H
                  obtain ⟨⟨t171, t172⟩, A130, H⟩ := H
                  replace H : (if t172 = 1 then (if ((rdOf ByteArray.empty l0 x38_2).size : Int) > 1 then (if 0 ≤ (wrap64 (((rdOf ByteArray.empty l0 x38_2).size : Int) - 1)) then (if (wrap64 (((rdOf ByteArray.empty l0 x38_2).size : Int) - 1)) < ((rdOf ByteArray.empty l0 x38_2).size : Int) then (if (bt (rdOf ByteArray.empty l0 x38_2) (wrap64 (((rdOf ByteArray.empty l0 x38_2).size : Int) - 1))) = 47 then (spec_Match.j2 k2 l0 a1 x4_2 x5_2 x8_2 x9_2 x38_2 (rdOf ByteArray.empty l0 x38_2) l0 (l0.length : Int) x38_2 true) else ((spec_hollow.f k2 (rdOf ByteArray.empty l0 x38_2)).bind fun t175 => (spec_Match.j2 k2 l0 a1 x4_2 x5_2 x8_2 x9_2 x38_2 (rdOf ByteArray.empty l0 x38_2) l0 (l0.length : Int) x38_2 t175))) else (none)) else (none)) else ((spec_hollow.f k2 (rdOf ByteArray.empty l0 x38_2)).bind fun t176 => (spec_Match.j2 k2 l0 a1 x4_2 x5_2 x8_2 x9_2 x38_2 (rdOf ByteArray.empty l0 x38_2) l0 (l0.length : Int) x38_2 t176))) else (spec_Match.j2 k2 l0 a1 x4_2 x5_2 x8_2 x9_2 x38_2 (rdOf ByteArray.empty l0 x38_2) l0 (l0.length : Int) x38_2 true)) = some (r1, r2, r3, r4) := H
                  have A13 := Aside0.mk A130
                  clear A130
                  have HC14 := Aside0.mk H
                  clear H
                  have p170 : 0 ≤ (x38_2 : Int) := of_decide_eq_true (by first | (with_reducible assumption) | assumption)
                  have q170 : x38_2 < (l0.length : Int) := of_decide_eq_true (by first | (with_reducible assumption) | assumption)
                  obtain ⟨ad170, e170, hx170_0⟩ := Kd.at_string HR0.out x38_2 p170 q170
                  cases e170
                  replace hx170_0 := (HB.out.cell (World.block_lt_of_cell? w _ hx170_0)).trans hx170_0
                  replace p170 := eq_true p170
                  replace q170 := eq_true q170
                  go_upto_region 8 with (first | ((with_reducible refine gate_callee (f := 25) rfl ?_); refine goesL_ (some 45) rfl rfl Tryd.func25 (by kernel_rfl) rfl #[.string (rdOf ByteArray.empty l0 x38_2)] rfl (by (try simp only [List.map_toArray, List.map_cons, List.map_nil]); first | done | rfl | (simp only [List.length_drop, List.length_take]; rfl)) ?_; (with_reducible refine (spec_pieces.calls k2 (rdOf ByteArray.empty l0 x38_2) t171 t172 _ A13.out).mono ?_); rintro e w15 ⟨v173, rfl, ho0, hb⟩; refine ⟨_, rfl, ?_⟩; have n0_ := Aside0.mk (Kd.R_below (by (with_reducible repeat (first | apply Kd.R_alloc | apply Kd.R_drewN | apply Kd.R_drew)); exact HO_5.out) hb); have n1_ := Aside0.mk (Kd.R_lower ho0 (below_size (by repeat (first | (with_reducible first | exact HB.out | apply below_alloc | apply pw_below_drewN | apply below_drew1) | exact HB.out)))); have n2_ := Aside0.mk (below_step (by repeat (first | (with_reducible first | exact HB.out | apply below_alloc | apply pw_below_drewN | apply below_drew1) | exact HB.out)) hb); clear HO_5; clear HB; have HO_5 := n0_; have HO174 := n1_; have HB := n2_; clear n0_ n1_ n2_; (try clear hb); (try clear hb2); (try clear hk); (try clear hi); (try clear ho0)))
                  (try simp only [Act.put, List.setIfInBounds_toArray, List.set_cons_zero, List.set_cons_succ])
                  go_cut [66] (fun v66 wc => ∃ (kq : Nat) (x66_13 : Bool), v66 = .bool x66_13 ∧ Aside0 (spec_Match.j2 kq l0 a1 x4_2 x5_2 x8_2 x9_2 x38_2 (rdOf ByteArray.empty l0 x38_2) l0 (l0.length : Int) x38_2 x66_13 = some (r1, r2, r3, r4)) ∧ Aside0 (kq ≤ k2) ∧ Aside0 (Kd.R Kd.string 9 wc w.heap.size (fun _ => True) u5 x5_2) ∧ Aside0 (Below w.heap.size w wc))
                  case first =>
                    have H := HC14.out
                    clear HC14
                    by_cases c16 : t172 = 1
                    · rw [if_pos c16] at H
                      have c16b0 : (t172 == 1) = true := beq_iff_eq.mpr c16
                      have c16b1 : (t172 != 1) = false := bne_eq_false_iff_eq.mpr c16
                      clear c16
                      (first | rw [c16b0] | (simp only [i64_w, i32_w]; rw [c16b0]) | skip)
                      by_cases c17 : ((rdOf ByteArray.empty l0 x38_2).size : Int) > 1
                      · rw [if_pos c17] at H
                        have c17b0 : decide (1 < ((rdOf ByteArray.empty l0 x38_2).size : Int)) = true := decide_eq_true c17
                        have c17b1 : decide (1 < (rdOf ByteArray.empty l0 x38_2).size) = true := decide_eq_true (by omega)
                        clear c17
                        obtain ⟨ji18, hji18⟩ : ∃ j_ : Int, (wrap64 (((rdOf ByteArray.empty l0 x38_2).size : Int) - 1)) = j_ := ⟨_, rfl⟩
                        replace H : (if 0 ≤ (ji18) then (if (ji18) < ((rdOf ByteArray.empty l0 x38_2).size : Int) then (if (bt (rdOf ByteArray.empty l0 x38_2) (ji18)) = 47 then (spec_Match.j2 k2 l0 a1 x4_2 x5_2 x8_2 x9_2 x38_2 (rdOf ByteArray.empty l0 x38_2) l0 (l0.length : Int) x38_2 true) else ((spec_hollow.f k2 (rdOf ByteArray.empty l0 x38_2)).bind fun t175 => (spec_Match.j2 k2 l0 a1 x4_2 x5_2 x8_2 x9_2 x38_2 (rdOf ByteArray.empty l0 x38_2) l0 (l0.length : Int) x38_2 t175))) else (none)) else (none)) = some (r1, r2, r3, r4) := by first | (rw [hji18] at H; exact H) | (simp only [hji18] at H ⊢; exact H)
                        have hji18w : (IntKind.i64.wrap (((rdOf ByteArray.empty l0 x38_2).size : Int) - 1)) = ji18 := (i64_w _).trans hji18
                        by_cases c19 : 0 ≤ (ji18)
                        · rw [if_pos c19] at H
                          have c19b0 : decide (0 ≤ (ji18)) = true := decide_eq_true c19
                          clear c19
                          by_cases c20 : (ji18) < ((rdOf ByteArray.empty l0 x38_2).size : Int)
                          · rw [if_pos c20] at H
                            have c20b0 : decide ((ji18) < ((rdOf ByteArray.empty l0 x38_2).size : Int)) = true := decide_eq_true c20
                            clear c20
                            by_cases c22 : (bt (rdOf ByteArray.empty l0 x38_2) (ji18)) = 47
                            · rw [if_pos c22] at H
                              have c22b0 : ((bt (rdOf ByteArray.empty l0 x38_2) (ji18)) == 47) = true := beq_iff_eq.mpr c22
                              have c22b1 : ((bt (rdOf ByteArray.empty l0 x38_2) (ji18)) != 47) = false := bne_eq_false_iff_eq.mpr c22
                              clear c22
                              have H' := Aside0.mk H
                              clear H
                              have p21 : 0 ≤ ((ji18) : Int) := of_decide_eq_true (by first | (with_reducible assumption) | assumption)
                              have q21 : (ji18) < ((rdOf ByteArray.empty l0 x38_2).size : Int) := of_decide_eq_true (by first | (with_reducible assumption) | assumption)
                              have hx21 := bt_at (rdOf ByteArray.empty l0 x38_2) (ji18)
                              replace p21 := eq_true p21
                              replace q21 := eq_true q21
                              go_wp2
                              go_meet
                              case rel => exact ⟨_, (true), (by first | rfl | (simp; done) | (simp [*]; done)), H', ⟨by have := HJ2.out; have := HK2.out; first | omega | exact Nat.le_refl _⟩, ⟨by (with_reducible repeat (first | apply Kd.R_alloc | apply Kd.R_drewN | apply Kd.R_drew)); exact HO_5.out⟩, ⟨by repeat (first | (with_reducible first | exact HB.out | apply below_alloc | apply pw_below_drewN | apply below_drew1) | exact HB.out)⟩⟩
                            · rw [if_neg c22] at H
                              have c22b0 : ((bt (rdOf ByteArray.empty l0 x38_2) (ji18)) == 47) = false := beq_eq_false_iff_ne.mpr c22
                              have c22b1 : ((bt (rdOf ByteArray.empty l0 x38_2) (ji18)) != 47) = true := bne_iff_ne.mpr c22
                              replace H := Option.bind_eq_some_iff.mp H
                              obtain ⟨t175, A230, H⟩ := H
                              replace H : (spec_Match.j2 k2 l0 a1 x4_2 x5_2 x8_2 x9_2 x38_2 (rdOf ByteArray.empty l0 x38_2) l0 (l0.length : Int) x38_2 t175) = some (r1, r2, r3, r4) := H
                              have A23 := Aside0.mk A230
                              clear A230
                              have H' := Aside0.mk H
                              clear H
                              have p21 : 0 ≤ ((ji18) : Int) := of_decide_eq_true (by first | (with_reducible assumption) | assumption)
                              have q21 : (ji18) < ((rdOf ByteArray.empty l0 x38_2).size : Int) := of_decide_eq_true (by first | (with_reducible assumption) | assumption)
                              have hx21 := bt_at (rdOf ByteArray.empty l0 x38_2) (ji18)
                              replace p21 := eq_true p21
                              replace q21 := eq_true q21
                              go_wp2_with (first | (go_at_call 26; (with_reducible refine (spec_hollow.calls k2 (rdOf ByteArray.empty l0 x38_2) t175 _ A23.out).mono ?_); rintro e w' ⟨rfl, ⟨nd, rfl⟩⟩))
                              go_meet
                              case rel => exact ⟨_, (t175), (by first | rfl | (simp; done) | (simp [*]; done)), H', ⟨by have := HJ2.out; have := HK2.out; first | omega | exact Nat.le_refl _⟩, ⟨by (with_reducible repeat (first | apply Kd.R_alloc | apply Kd.R_drewN | apply Kd.R_drew)); exact HO_5.out⟩, ⟨by repeat (first | (with_reducible first | exact HB.out | apply below_alloc | apply pw_below_drewN | apply below_drew1) | exact HB.out)⟩⟩
                          · rw [if_neg c20] at H
                            exact absurd H (by simp)
                        · rw [if_neg c19] at H
                          exact absurd H (by simp)
                      · rw [if_neg c17] at H
                        have c17b0 : decide (1 < ((rdOf ByteArray.empty l0 x38_2).size : Int)) = false := decide_eq_false c17
                        have c17b1 : decide (1 < (rdOf ByteArray.empty l0 x38_2).size) = false := decide_eq_false (by omega)
                        clear c17
                        replace H := Option.bind_eq_some_iff.mp H
                        obtain ⟨t176, A240, H⟩ := H
                        replace H : (spec_Match.j2 k2 l0 a1 x4_2 x5_2 x8_2 x9_2 x38_2 (rdOf ByteArray.empty l0 x38_2) l0 (l0.length : Int) x38_2 t176) = some (r1, r2, r3, r4) := H
                        have A24 := Aside0.mk A240
                        clear A240
                        have H' := Aside0.mk H
                        clear H
                        go_wp2_with (first | (go_at_call 26; (with_reducible refine (spec_hollow.calls k2 (rdOf ByteArray.empty l0 x38_2) t176 _ A24.out).mono ?_); rintro e w' ⟨rfl, ⟨nd, rfl⟩⟩))
                        go_meet
                        case rel => exact ⟨_, (t176), (by first | rfl | (simp; done) | (simp [*]; done)), H', ⟨by have := HJ2.out; have := HK2.out; first | omega | exact Nat.le_refl _⟩, ⟨by (with_reducible repeat (first | apply Kd.R_alloc | apply Kd.R_drewN | apply Kd.R_drew)); exact HO_5.out⟩, ⟨by repeat (first | (with_reducible first | exact HB.out | apply below_alloc | apply pw_below_drewN | apply below_drew1) | exact HB.out)⟩⟩
                    · rw [if_neg c16] at H
                      have c16b0 : (t172 == 1) = false := beq_eq_false_iff_ne.mpr c16
                      have c16b1 : (t172 != 1) = true := bne_iff_ne.mpr c16
                      (first | rw [c16b0] | (simp only [i64_w, i32_w]; rw [c16b0]) | skip)
                      have H' := Aside0.mk H
                      clear H
                      go_wp2
                      go_meet
                      case rel => exact ⟨_, (true), (by first | rfl | (simp; done) | (simp [*]; done)), H', ⟨by have := HJ2.out; have := HK2.out; first | omega | exact Nat.le_refl _⟩, ⟨by (with_reducible repeat (first | apply Kd.R_alloc | apply Kd.R_drewN | apply Kd.R_drew)); exact HO_5.out⟩, ⟨by repeat (first | (with_reducible first | exact HB.out | apply below_alloc | apply pw_below_drewN | apply below_drew1) | exact HB.out)⟩⟩
                  case rest =>
                    clear HC14
                    try clear c1
                    try clear p1
                    try clear q1
                    try clear hx1
                    try clear c2
                    try clear p2
                    try clear q2
                    try clear hx2
                    try clear c4
                    try clear c4b0
                    try clear c4b1
                    try clear c5
                    try clear c5b0
                    try clear c5b1
                    try clear p6
                    try clear c7
                    try clear c7b0
                    try clear c7b1
                    try clear c8
                    try clear c8b0
                    try clear c8b1
                    try clear c9
                    try clear c10
                    try clear c10b0
                    try clear c11
                    try clear c11b0
                    try clear c12
                    try clear c12b0
                    try clear c16
                    try clear c16b0
                    try clear c16b1
                    try clear c17
                    try clear c17b0
                    try clear c17b1
                    try clear p17
                    try clear q17
                    try clear hx17
                    try clear c19
                    try clear c19b0
                    try clear c20
                    try clear c20b0
                    try clear p21
                    try clear q21
                    try clear hx21
                    try clear c22
                    try clear c22b0
                    try clear c22b1
                    try clear hx170_0
                    try clear p170
                    try clear p2
                    try clear p21
                    try clear p6
                    try clear q170
                    try clear q21
                    obtain ⟨kq, x66_13, rfl, HA, HJ13, HO_5, HB⟩ := hcut
                    cases kq with
                    | zero => exact absurd HA.out (by simp [spec_Match.j2])
                    | succ kj13 =>
                      have H := HA.out
                      clear HA
                      simp only [spec_Match.j2] at H
                      by_cases c25 : x66_13 = true
                      · subst c25
                        have H1 : (some ((⟨#[]⟩ : ByteArray), ([] : List ByteArray), false, 2)) = some (r1, r2, r3, r4) := by rw [if_pos rfl] at H; exact H
                        clear H
                        have H := H1
                        clear H1
                        simp only [Option.some.injEq, Prod.mk.injEq] at H
                        obtain ⟨rfl, rfl, rfl, rfl⟩ := H
                        go_wp2
                        refine bodyPost_ret (results_list (rs := [.tmp 4, .tmp 5, .tmp 6, .tmp 7]) rfl (by simp) (.tmp (.tmp (.tmp (.tmp .nil))))) rfl ?_
                        exact ⟨_, by first | rfl | (simp [errW_none, errW_some] <;> rfl) | (simp [*, errW_none, errW_some] <;> rfl), by first | exact Kd.R_nil _ _ _ _ _ | exact Kd.N_nil _ _ _ _ _ | exact Kd.V_nil _ _ _ _ _ | exact Kd.Q_nil _ _ _ _ _ | exact Kd.S_nil _ _ _ _ _, by repeat (first | (with_reducible first | exact HB.out | apply below_alloc | apply pw_below_drewN | apply below_drew1) | exact HB.out)⟩
                      · replace c25 := Bool.eq_false_iff.mpr c25
                        subst c25
                        have H1 : (if 0 ≤ x38_2 then (if x38_2 ≤ (l0.length : Int) then (spec_Match.l1 kj13 l0 a1 x4_2 x5_2 x8_2 x9_2 (rdOf ByteArray.empty l0 x38_2) l0 (l0.length : Int) x38_2 (l0.take (x38_2 : Int).toNat) ((l0.take (x38_2 : Int).toNat).length : Int) 0) else (none)) else (none)) = some (r1, r2, r3, r4) := by rw [if_neg (show ¬ (false = true) by decide)] at H; exact H
                        clear H
                        have H := H1
                        clear H1
                        by_cases c26 : 0 ≤ x38_2
                        · rw [if_pos c26] at H
                          have c26b0 := eq_true c26
                          have c26b1 : decide (0 ≤ x38_2) = true := decide_eq_true c26
                          clear c26
                          by_cases c27 : x38_2 ≤ (l0.length : Int)
                          · rw [if_pos c27] at H
                            have c27b0 := eq_true c27
                            have c27b1 : decide (x38_2 ≤ (l0.length : Int)) = true := decide_eq_true c27
                            clear c27
                            have H' := Aside0.mk H
                            clear H
                            obtain ⟨i028, hi028, _, hsz28, _⟩ := info_parts info9
                            obtain ⟨hcut28, hA28, hC28⟩ := print_take_of (P := Tryd.prog) Value.string (⟨#[]⟩ : ByteArray) 22 9 .i64 Tryd.underlying22 hi028 hsz28 (some ad170) c0 l0 x38_2 (of_decide_eq_true (by first | (with_reducible assumption) | assumption)) (of_decide_eq_true (by first | (with_reducible assumption) | assumption)) HC0.out
                            have HR177 := Aside0.mk (Kd.C_of_reads (h1 := fun _ => rfl) (hA28 _ (Kd.reads_of_C HR0.out)))
                            have HC177 := Aside0.mk hC28
                            clear hA28 hC28 hi028 hsz28
                            generalize l0.take (x38_2 : Int).toNat = TK at hcut28 HR177 HC177 H'
                            go_wp2
                            go_loopg [4, 5, 71] kj13 (fun kq v4 v5 v71 w' => ∃ (x4_4 : ByteArray) (x5_4 : List ByteArray) (x71_4 : Int), v4 = .string x4_4 ∧ v71 = .int .i64 x71_4 ∧ Aside0 (spec_Match.l1 kq l0 a1 x4_4 x5_4 x8_2 x9_2 (rdOf ByteArray.empty l0 x38_2) l0 (l0.length : Int) x38_2 TK (TK.length : Int) x71_4 = some (r1, r2, r3, r4)) ∧ Aside0 (kq ≤ kj13) ∧ Aside0 (Kd.R Kd.string 9 w' w.heap.size (fun _ => True) v5 x5_4) ∧ Aside0 (Below w.heap.size w w'))
                            case atStart => exact ⟨(x4_2), (x5_2), (0), (by first | rfl | (simp; done) | (simp [*]; done)), (by first | rfl | (simp; done) | (simp [*]; done)), H', ⟨Nat.le_refl _⟩, ⟨by (with_reducible repeat (first | apply Kd.R_alloc | apply Kd.R_drewN | apply Kd.R_drew)); exact HO_5.out⟩, ⟨by repeat (first | (with_reducible first | exact HB.out | apply below_alloc | apply pw_below_drewN | apply below_drew1) | exact HB.out)⟩⟩
                            case round =>
                              clear H'
                              try clear c1
                              try clear p1
                              try clear q1
                              try clear hx1
                              try clear c2
                              try clear p2
                              try clear q2
                              try clear hx2
                              try clear c4
                              try clear c4b0
                              try clear c4b1
                              try clear c5
                              try clear c5b0
                              try clear c5b1
                              try clear p6
                              try clear c7
                              try clear c7b0
                              try clear c7b1
                              try clear c8
                              try clear c8b0
                              try clear c8b1
                              try clear c9
                              try clear c10
                              try clear c10b0
                              try clear c11
                              try clear c11b0
                              try clear c12
                              try clear c12b0
                              try clear c16
                              try clear c16b0
                              try clear c16b1
                              try clear c17
                              try clear c17b0
                              try clear c17b1
                              try clear p17
                              try clear q17
                              try clear hx17
                              try clear c19
                              try clear c19b0
                              try clear c20
                              try clear c20b0
                              try clear p21
                              try clear q21
                              try clear hx21
                              try clear c22
                              try clear c22b0
                              try clear c22b1
                              try clear c25
                              try clear c26
                              try clear c26b0
                              try clear c26b1
                              try clear c27
                              try clear c27b0
                              try clear c27b1
                              try clear hx170_0
                              try clear p1
                              try clear p17
                              try clear p170
                              try clear p2
                              try clear p21
                              try clear p6
                              try clear q1
                              try clear q17
                              try clear q170
                              try clear q2
                              try clear q21
                              obtain ⟨x4_4, x5_4, x71_4, rfl, rfl, HA, HK4, HO_5, HB⟩ := hrel
                              cases gk with
                              | zero => exact absurd HA.out (by simp [spec_Match.l1])
                              | succ k4 =>
                                have H := HA.out
                                clear HA
                                simp only [spec_Match.l1] at H
                                by_cases c29 : x71_4 < (TK.length : Int)
                                · rw [if_pos c29] at H
                                  have c29b0 : decide (x71_4 < (TK.length : Int)) = true := decide_eq_true c29
                                  clear c29
                                  by_cases c30 : 0 ≤ x71_4
                                  · rw [if_pos c30] at H
                                    have c30b0 : decide (0 ≤ x71_4) = true := decide_eq_true c30
                                    clear c30
                                    by_cases c31 : x71_4 < (TK.length : Int)
                                    · rw [if_pos c31] at H
                                      have c31b0 : decide (x71_4 < (TK.length : Int)) = true := decide_eq_true c31
                                      clear c31
                                      replace H := Option.bind_eq_some_iff.mp H
                                      obtain ⟨t179, A320, H⟩ := H
                                      replace H : ((spec_plainPath.f k4 t179).bind fun t180 => ((spec_stripped.f (rdOf ByteArray.empty TK x71_4)).bind fun t181 => ((spec_plainPath.f k4 t181).bind fun t182 => (if t180.toList = t182.toList then (some ((⟨#[]⟩ : ByteArray), ([] : List ByteArray), false, 2)) else (spec_Match.l1 k4 l0 a1 x4_4 x5_4 x8_2 x9_2 (rdOf ByteArray.empty l0 x38_2) l0 (l0.length : Int) x38_2 TK (TK.length : Int) (wrap64 (x71_4 + 1))))))) = some (r1, r2, r3, r4) := H
                                      have A32 := Aside0.mk A320
                                      clear A320
                                      replace H := Option.bind_eq_some_iff.mp H
                                      obtain ⟨t180, A330, H⟩ := H
                                      replace H : ((spec_stripped.f (rdOf ByteArray.empty TK x71_4)).bind fun t181 => ((spec_plainPath.f k4 t181).bind fun t182 => (if t180.toList = t182.toList then (some ((⟨#[]⟩ : ByteArray), ([] : List ByteArray), false, 2)) else (spec_Match.l1 k4 l0 a1 x4_4 x5_4 x8_2 x9_2 (rdOf ByteArray.empty l0 x38_2) l0 (l0.length : Int) x38_2 TK (TK.length : Int) (wrap64 (x71_4 + 1)))))) = some (r1, r2, r3, r4) := H
                                      have A33 := Aside0.mk A330
                                      clear A330
                                      replace H := Option.bind_eq_some_iff.mp H
                                      obtain ⟨t181, A340, H⟩ := H
                                      replace H : ((spec_plainPath.f k4 t181).bind fun t182 => (if t180.toList = t182.toList then (some ((⟨#[]⟩ : ByteArray), ([] : List ByteArray), false, 2)) else (spec_Match.l1 k4 l0 a1 x4_4 x5_4 x8_2 x9_2 (rdOf ByteArray.empty l0 x38_2) l0 (l0.length : Int) x38_2 TK (TK.length : Int) (wrap64 (x71_4 + 1))))) = some (r1, r2, r3, r4) := H
                                      have A34 := Aside0.mk A340
                                      clear A340
                                      replace H := Option.bind_eq_some_iff.mp H
                                      obtain ⟨t182, A350, H⟩ := H
                                      replace H : (if t180.toList = t182.toList then (some ((⟨#[]⟩ : ByteArray), ([] : List ByteArray), false, 2)) else (spec_Match.l1 k4 l0 a1 x4_4 x5_4 x8_2 x9_2 (rdOf ByteArray.empty l0 x38_2) l0 (l0.length : Int) x38_2 TK (TK.length : Int) (wrap64 (x71_4 + 1)))) = some (r1, r2, r3, r4) := H
                                      have A35 := Aside0.mk A350
                                      clear A350
                                      by_cases c36 : t180.toList = t182.toList
                                      · rw [if_pos c36] at H
                                        have c36b0 : (t180.toList == t182.toList) = true := beq_iff_eq.mpr c36
                                        have c36b1 : (t180.toList != t182.toList) = false := bne_eq_false_iff_eq.mpr c36
                                        clear c36
                                        simp only [Option.some.injEq, Prod.mk.injEq] at H
                                        obtain ⟨rfl, rfl, rfl, rfl⟩ := H
                                        have p178 : 0 ≤ (x71_4 : Int) := of_decide_eq_true (by first | (with_reducible assumption) | assumption)
                                        have q178 : x71_4 < (TK.length : Int) := of_decide_eq_true (by first | (with_reducible assumption) | assumption)
                                        obtain ⟨ad178, e178, hx178_0⟩ := Kd.at_string HR177.out x71_4 p178 q178
                                        obtain rfl : ad170 = ad178 := (by injection e178)
                                        replace hx178_0 := (HB.out.cell (World.block_lt_of_cell? w _ hx178_0)).trans hx178_0
                                        replace p178 := eq_true p178
                                        replace q178 := eq_true q178
                                        go_wp2_with (first | ((with_reducible refine gate_callee (f := 28) rfl ?_); refine goesL_ (some 76) rfl rfl Tryd.func28 (by kernel_rfl) rfl #[.string (rdOf ByteArray.empty l0 x38_2)] rfl (by (try simp only [List.map_toArray, List.map_cons, List.map_nil]); first | done | rfl | (simp only [List.length_drop, List.length_take]; rfl)) ?_; (with_reducible refine (spec_stripped.calls (rdOf ByteArray.empty l0 x38_2) t179 _ A32.out).mono ?_); rintro e w' ⟨rfl, ⟨nd, rfl⟩⟩; refine ⟨_, rfl, ?_⟩) | ((with_reducible refine gate_callee (f := 27) rfl ?_); refine goesL_ (some 77) rfl rfl Tryd.func27 (by kernel_rfl) rfl #[.string t179] rfl (by (try simp only [List.map_toArray, List.map_cons, List.map_nil]); first | done | rfl | (simp only [List.length_drop, List.length_take]; rfl)) ?_; (with_reducible refine (spec_plainPath.calls k4 t179 t180 _ A33.out).mono ?_); rintro e w' ⟨rfl, ⟨nd, rfl⟩⟩; refine ⟨_, rfl, ?_⟩) | ((with_reducible refine gate_callee (f := 28) rfl ?_); refine goesL_ (some 79) rfl rfl Tryd.func28 (by kernel_rfl) rfl #[.string (rdOf ByteArray.empty TK x71_4)] rfl (by (try simp only [List.map_toArray, List.map_cons, List.map_nil]); first | done | rfl | (simp only [List.length_drop, List.length_take]; rfl)) ?_; (with_reducible refine (spec_stripped.calls (rdOf ByteArray.empty TK x71_4) t181 _ A34.out).mono ?_); rintro e w' ⟨rfl, ⟨nd, rfl⟩⟩; refine ⟨_, rfl, ?_⟩) | ((with_reducible refine gate_callee (f := 27) rfl ?_); refine goesL_ (some 80) rfl rfl Tryd.func27 (by kernel_rfl) rfl #[.string t181] rfl (by (try simp only [List.map_toArray, List.map_cons, List.map_nil]); first | done | rfl | (simp only [List.length_drop, List.length_take]; rfl)) ?_; (with_reducible refine (spec_plainPath.calls k4 t181 t182 _ A35.out).mono ?_); rintro e w' ⟨rfl, ⟨nd, rfl⟩⟩; refine ⟨_, rfl, ?_⟩))
                                        refine bodyPost_ret (results_list (rs := [.tmp 4, .tmp 5, .tmp 6, .tmp 7]) rfl (by simp) (.tmp (.tmp (.tmp (.tmp .nil))))) rfl ?_
                                        exact ⟨_, by first | rfl | (simp [errW_none, errW_some] <;> rfl) | (simp [*, errW_none, errW_some] <;> rfl), by first | exact Kd.R_nil _ _ _ _ _ | exact Kd.N_nil _ _ _ _ _ | exact Kd.V_nil _ _ _ _ _ | exact Kd.Q_nil _ _ _ _ _ | exact Kd.S_nil _ _ _ _ _, by repeat (first | (with_reducible first | exact HB.out | apply below_alloc | apply pw_below_drewN | apply below_drew1) | exact HB.out)⟩
                                      · rw [if_neg c36] at H
                                        have c36b0 : (t180.toList == t182.toList) = false := beq_eq_false_iff_ne.mpr c36
                                        have c36b1 : (t180.toList != t182.toList) = true := bne_iff_ne.mpr c36
                                        have H' := Aside0.mk H
                                        clear H
                                        have p178 : 0 ≤ (x71_4 : Int) := of_decide_eq_true (by first | (with_reducible assumption) | assumption)
                                        have q178 : x71_4 < (TK.length : Int) := of_decide_eq_true (by first | (with_reducible assumption) | assumption)
                                        obtain ⟨ad178, e178, hx178_0⟩ := Kd.at_string HR177.out x71_4 p178 q178
                                        obtain rfl : ad170 = ad178 := (by injection e178)
                                        replace hx178_0 := (HB.out.cell (World.block_lt_of_cell? w _ hx178_0)).trans hx178_0
                                        replace p178 := eq_true p178
                                        replace q178 := eq_true q178
                                        go_wp2_with (first | ((with_reducible refine gate_callee (f := 28) rfl ?_); refine goesL_ (some 76) rfl rfl Tryd.func28 (by kernel_rfl) rfl #[.string (rdOf ByteArray.empty l0 x38_2)] rfl (by (try simp only [List.map_toArray, List.map_cons, List.map_nil]); first | done | rfl | (simp only [List.length_drop, List.length_take]; rfl)) ?_; (with_reducible refine (spec_stripped.calls (rdOf ByteArray.empty l0 x38_2) t179 _ A32.out).mono ?_); rintro e w' ⟨rfl, ⟨nd, rfl⟩⟩; refine ⟨_, rfl, ?_⟩) | ((with_reducible refine gate_callee (f := 27) rfl ?_); refine goesL_ (some 77) rfl rfl Tryd.func27 (by kernel_rfl) rfl #[.string t179] rfl (by (try simp only [List.map_toArray, List.map_cons, List.map_nil]); first | done | rfl | (simp only [List.length_drop, List.length_take]; rfl)) ?_; (with_reducible refine (spec_plainPath.calls k4 t179 t180 _ A33.out).mono ?_); rintro e w' ⟨rfl, ⟨nd, rfl⟩⟩; refine ⟨_, rfl, ?_⟩) | ((with_reducible refine gate_callee (f := 28) rfl ?_); refine goesL_ (some 79) rfl rfl Tryd.func28 (by kernel_rfl) rfl #[.string (rdOf ByteArray.empty TK x71_4)] rfl (by (try simp only [List.map_toArray, List.map_cons, List.map_nil]); first | done | rfl | (simp only [List.length_drop, List.length_take]; rfl)) ?_; (with_reducible refine (spec_stripped.calls (rdOf ByteArray.empty TK x71_4) t181 _ A34.out).mono ?_); rintro e w' ⟨rfl, ⟨nd, rfl⟩⟩; refine ⟨_, rfl, ?_⟩) | ((with_reducible refine gate_callee (f := 27) rfl ?_); refine goesL_ (some 80) rfl rfl Tryd.func27 (by kernel_rfl) rfl #[.string t181] rfl (by (try simp only [List.map_toArray, List.map_cons, List.map_nil]); first | done | rfl | (simp only [List.length_drop, List.length_take]; rfl)) ?_; (with_reducible refine (spec_plainPath.calls k4 t181 t182 _ A35.out).mono ?_); rintro e w' ⟨rfl, ⟨nd, rfl⟩⟩; refine ⟨_, rfl, ?_⟩))
                                        go_roundg k4
                                        case measure => have := HJ2.out; have := HK2.out; have := HJ13.out; have := HK4.out; omega
                                        case rel => exact ⟨(x4_4), (x5_4), (wrap64 (x71_4 + 1)), (by first | rfl | (simp; done) | (simp [*]; done)), (by first | rfl | (simp; done) | (simp [*]; done)), H', ⟨by have := HJ2.out; have := HK2.out; have := HJ13.out; have := HK4.out; omega⟩, ⟨by (with_reducible repeat (first | apply Kd.R_alloc | apply Kd.R_drewN | apply Kd.R_drew)); exact HO_5.out⟩, ⟨by repeat (first | (with_reducible first | exact HB.out | apply below_alloc | apply pw_below_drewN | apply below_drew1) | exact HB.out)⟩⟩
                                    · rw [if_neg c31] at H
                                      exact absurd H (by simp)
                                  · rw [if_neg c30] at H
                                    exact absurd H (by simp)
                                · rw [if_neg c29] at H
                                  have c29b0 : decide (x71_4 < (TK.length : Int)) = false := decide_eq_false c29
                                  clear c29
                                  replace H := Option.bind_eq_some_iff.mp H
                                  obtain ⟨⟨t183, t184, t185⟩, A370, H⟩ := H
                                  replace H : (if t185 = 1 then (if t184 = true then (spec_Match.l2 k4 l0 a1 x4_4 x5_4 x8_2 (wrap64 (x9_2 + 1)) (rdOf ByteArray.empty l0 x38_2) t183 l0 (l0.length : Int) x38_2 t183 (t183.length : Int) 0) else (spec_Match.l0 k4 l0 a1 x4_4 x5_4 x8_2 x9_2 l0 (l0.length : Int) (wrap64 (x38_2 + 1)))) else (some ((⟨#[]⟩ : ByteArray), ([] : List ByteArray), false, 2))) = some (r1, r2, r3, r4) := H
                                  have A37 := Aside0.mk A370
                                  clear A370
                                  by_cases c38 : t185 = 1
                                  · rw [if_pos c38] at H
                                    have c38b0 : (t185 == 1) = true := beq_iff_eq.mpr c38
                                    have c38b1 : (t185 != 1) = false := bne_eq_false_iff_eq.mpr c38
                                    clear c38
                                    by_cases c39 : t184 = true
                                    · subst c39
                                      have H1 : (spec_Match.l2 k4 l0 a1 x4_4 x5_4 x8_2 (wrap64 (x9_2 + 1)) (rdOf ByteArray.empty l0 x38_2) t183 l0 (l0.length : Int) x38_2 t183 (t183.length : Int) 0) = some (r1, r2, r3, r4) := by rw [if_pos rfl] at H; exact H
                                      clear H
                                      have H := H1
                                      clear H1
                                      have H' := Aside0.mk H
                                      clear H
                                      go_wp2_with (first | ((with_reducible refine gate_callee (f := 29) rfl ?_); refine goesL_ (some 86) rfl rfl Tryd.func29 (by kernel_rfl) rfl #[.string (rdOf ByteArray.empty l0 x38_2), .string a1] rfl (by (try simp only [List.map_toArray, List.map_cons, List.map_nil]); first | done | rfl | (simp only [List.length_drop, List.length_take]; rfl)) ?_; (with_reducible refine (spec_values.calls k4 (rdOf ByteArray.empty l0 x38_2) a1 t183 true t185 _ A37.out).mono ?_); rintro e w40 ⟨v186, rfl, ho0, hb⟩; refine ⟨_, rfl, ?_⟩; have n0_ := Aside0.mk (Kd.R_elder' (by (with_reducible repeat (first | apply Kd.R_alloc | apply Kd.R_drewN | apply Kd.R_drew)); exact HO_5.out) (Kd.R_base ho0) hb); have n1_ := Aside0.mk (Kd.R_lower (Kd.R_new' ho0 (Kd.R_lt (by (with_reducible repeat (first | apply Kd.R_alloc | apply Kd.R_drewN | apply Kd.R_drew)); exact HO_5.out))) (below_size (by repeat (first | (with_reducible first | exact HB.out | apply below_alloc | apply pw_below_drewN | apply below_drew1) | exact HB.out)))); have n2_ := Aside0.mk (below_step (by repeat (first | (with_reducible first | exact HB.out | apply below_alloc | apply pw_below_drewN | apply below_drew1) | exact HB.out)) hb); clear HO_5; clear HB; have HO_5 := n0_; have HO187 := n1_; have HB := n2_; clear n0_ n1_ n2_; (try clear hb); (try clear hb2); (try clear hk); (try clear hi); (try clear ho0); obtain ⟨Ao41, co41, eo41⟩ := Kd.R_slice HO187.out; subst eo41))
                                      go_loopg [8, 98] k4 (fun kq v8 v98 w' => ∃ (x8_5 : Bool) (x98_5 : Int), v8 = .bool x8_5 ∧ v98 = .int .i64 x98_5 ∧ Aside0 (spec_Match.l2 kq l0 a1 x4_4 x5_4 x8_5 (wrap64 (x9_2 + 1)) (rdOf ByteArray.empty l0 x38_2) t183 l0 (l0.length : Int) x38_2 t183 (t183.length : Int) x98_5 = some (r1, r2, r3, r4)) ∧ Aside0 (kq ≤ k4) ∧ Aside0 (Kd.R Kd.string 9 w' w.heap.size (fun k_ => some k_ ≠ ((.slice Ao41 t183.length co41) : Value).ownBlock ∧ some k_ ≠ ((.slice Ao41 t183.length co41) : Value).ownBlock) u5 x5_4) ∧ Aside0 (Kd.R Kd.string 9 w' w.heap.size (fun k_ => some k_ ≠ (u5 : Value).ownBlock) (.slice Ao41 t183.length co41) t183) ∧ Aside0 (Kd.R Kd.string 9 w' w.heap.size (fun k_ => some k_ ≠ (u5 : Value).ownBlock) (.slice Ao41 t183.length co41) t183) ∧ Aside0 (Below w.heap.size w w'))
                                      case atStart => exact ⟨(x8_2), (0), (by first | rfl | (simp; done) | (simp [*]; done)), (by first | rfl | (simp; done) | (simp [*]; done)), H', ⟨Nat.le_refl _⟩, ⟨by (with_reducible repeat (first | apply Kd.R_alloc | apply Kd.R_drewN | apply Kd.R_drew)); exact Kd.R_mono HO_5.out (fun _ hk => ⟨hk.2, hk.2⟩)⟩, ⟨by (with_reducible repeat (first | apply Kd.R_alloc | apply Kd.R_drewN | apply Kd.R_drew)); exact Kd.R_mono HO187.out (fun _ hk => hk.2)⟩, ⟨by (with_reducible repeat (first | apply Kd.R_alloc | apply Kd.R_drewN | apply Kd.R_drew)); exact Kd.R_mono HO187.out (fun _ hk => hk.2)⟩, ⟨by repeat (first | (with_reducible first | exact HB.out | apply below_alloc | apply pw_below_drewN | apply below_drew1) | exact HB.out)⟩⟩
                                      case round =>
                                        clear H'
                                        try clear c1
                                        try clear p1
                                        try clear q1
                                        try clear hx1
                                        try clear c2
                                        try clear p2
                                        try clear q2
                                        try clear hx2
                                        try clear c3
                                        try clear c4
                                        try clear c4b0
                                        try clear c4b1
                                        try clear c5
                                        try clear c5b0
                                        try clear c5b1
                                        try clear p6
                                        try clear c7
                                        try clear c7b0
                                        try clear c7b1
                                        try clear c8
                                        try clear c8b0
                                        try clear c8b1
                                        try clear c9
                                        try clear c10
                                        try clear c10b0
                                        try clear c11
                                        try clear c11b0
                                        try clear c12
                                        try clear c12b0
                                        try clear c16
                                        try clear c16b0
                                        try clear c16b1
                                        try clear c17
                                        try clear c17b0
                                        try clear c17b1
                                        try clear p17
                                        try clear q17
                                        try clear hx17
                                        try clear c19
                                        try clear c19b0
                                        try clear c20
                                        try clear c20b0
                                        try clear p21
                                        try clear q21
                                        try clear hx21
                                        try clear c22
                                        try clear c22b0
                                        try clear c22b1
                                        try clear c25
                                        try clear c26
                                        try clear c26b0
                                        try clear c26b1
                                        try clear c27
                                        try clear c27b0
                                        try clear c27b1
                                        try clear c28
                                        try clear c29
                                        try clear c29b0
                                        try clear c30
                                        try clear c30b0
                                        try clear c31
                                        try clear c31b0
                                        try clear c36
                                        try clear c36b0
                                        try clear c36b1
                                        try clear c38
                                        try clear c38b0
                                        try clear c38b1
                                        try clear c39
                                        try clear hx170_0
                                        try clear hx178_0
                                        try clear p1
                                        try clear p17
                                        try clear p170
                                        try clear p178
                                        try clear p2
                                        try clear p21
                                        try clear p6
                                        try clear q1
                                        try clear q17
                                        try clear q170
                                        try clear q178
                                        try clear q2
                                        try clear q21
                                        obtain ⟨x8_5, x98_5, rfl, rfl, HA, HK5, HO_5, HO_16, HO_96, HB⟩ := hrel
                                        cases gk with
                                        | zero => exact absurd HA.out (by simp [spec_Match.l2])
                                        | succ k5 =>
                                          have H := HA.out
                                          clear HA
                                          simp only [spec_Match.l2] at H
                                          by_cases c42 : x98_5 < (t183.length : Int)
                                          · rw [if_pos c42] at H
                                            have c42b0 : decide (x98_5 < (t183.length : Int)) = true := decide_eq_true c42
                                            clear c42
                                            by_cases c43 : 0 ≤ x98_5
                                            · rw [if_pos c43] at H
                                              have c43b0 : decide (0 ≤ x98_5) = true := decide_eq_true c43
                                              clear c43
                                              by_cases c44 : x98_5 < (t183.length : Int)
                                              · rw [if_pos c44] at H
                                                have c44b0 : decide (x98_5 < (t183.length : Int)) = true := decide_eq_true c44
                                                clear c44
                                                by_cases c45 : x8_5 = true
                                                · subst c45
                                                  have H1 : (spec_Match.l2 k5 l0 a1 x4_4 x5_4 true (wrap64 (x9_2 + 1)) (rdOf ByteArray.empty l0 x38_2) t183 l0 (l0.length : Int) x38_2 t183 (t183.length : Int) (wrap64 (x98_5 + 1))) = some (r1, r2, r3, r4) := by rw [if_pos rfl] at H; exact H
                                                  clear H
                                                  have H := H1
                                                  clear H1
                                                  have H' := Aside0.mk H
                                                  clear H
                                                  have p188 : 0 ≤ (x98_5 : Int) := of_decide_eq_true (by first | (with_reducible assumption) | assumption)
                                                  have q188 : x98_5 < (t183.length : Int) := of_decide_eq_true (by first | (with_reducible assumption) | assumption)
                                                  obtain ⟨ad188, e188, hx188_0⟩ := Kd.at_string (Kd.R_reads' HO_96.out).2.2 x98_5 p188 q188
                                                  cases e188
                                                  replace p188 := eq_true p188
                                                  replace q188 := eq_true q188
                                                  go_wp2
                                                  go_roundg k5
                                                  case measure => have := HJ2.out; have := HK2.out; have := HJ13.out; have := HK4.out; have := HK5.out; omega
                                                  case rel => exact ⟨(true), (wrap64 (x98_5 + 1)), (by first | rfl | (simp; done) | (simp [*]; done)), (by first | rfl | (simp; done) | (simp [*]; done)), H', ⟨by have := HJ2.out; have := HK2.out; have := HJ13.out; have := HK4.out; have := HK5.out; omega⟩, ⟨by (with_reducible repeat (first | apply Kd.R_alloc | apply Kd.R_drewN | apply Kd.R_drew)); exact HO_5.out⟩, ⟨by (with_reducible repeat (first | apply Kd.R_alloc | apply Kd.R_drewN | apply Kd.R_drew)); exact HO_16.out⟩, ⟨by (with_reducible repeat (first | apply Kd.R_alloc | apply Kd.R_drewN | apply Kd.R_drew)); exact HO_96.out⟩, ⟨by repeat (first | (with_reducible first | exact HB.out | apply below_alloc | apply pw_below_drewN | apply below_drew1) | exact HB.out)⟩⟩
                                                · replace c45 := Bool.eq_false_iff.mpr c45
                                                  subst c45
                                                  have H1 : (spec_Match.l2 k5 l0 a1 x4_4 x5_4 ((rdOf ByteArray.empty t183 x98_5).toList == ([] : List UInt8)) (wrap64 (x9_2 + 1)) (rdOf ByteArray.empty l0 x38_2) t183 l0 (l0.length : Int) x38_2 t183 (t183.length : Int) (wrap64 (x98_5 + 1))) = some (r1, r2, r3, r4) := by rw [if_neg (show ¬ (false = true) by decide)] at H; exact H
                                                  clear H
                                                  have H := H1
                                                  clear H1
                                                  have H' := Aside0.mk H
                                                  clear H
                                                  have p188 : 0 ≤ (x98_5 : Int) := of_decide_eq_true (by first | (with_reducible assumption) | assumption)
                                                  have q188 : x98_5 < (t183.length : Int) := of_decide_eq_true (by first | (with_reducible assumption) | assumption)
                                                  obtain ⟨ad188, e188, hx188_0⟩ := Kd.at_string (Kd.R_reads' HO_96.out).2.2 x98_5 p188 q188
                                                  cases e188
                                                  replace p188 := eq_true p188
                                                  replace q188 := eq_true q188
                                                  go_wp2
                                                  go_roundg k5
                                                  case measure => have := HJ2.out; have := HK2.out; have := HJ13.out; have := HK4.out; have := HK5.out; omega
                                                  case rel => exact ⟨(((rdOf ByteArray.empty t183 x98_5).toList == ([] : List UInt8))), (wrap64 (x98_5 + 1)), (by first | rfl | (simp; done) | (simp [*]; done)), (by first | rfl | (simp; done) | (simp [*]; done)), H', ⟨by have := HJ2.out; have := HK2.out; have := HJ13.out; have := HK4.out; have := HK5.out; omega⟩, ⟨by (with_reducible repeat (first | apply Kd.R_alloc | apply Kd.R_drewN | apply Kd.R_drew)); exact HO_5.out⟩, ⟨by (with_reducible repeat (first | apply Kd.R_alloc | apply Kd.R_drewN | apply Kd.R_drew)); exact HO_16.out⟩, ⟨by (with_reducible repeat (first | apply Kd.R_alloc | apply Kd.R_drewN | apply Kd.R_drew)); exact HO_96.out⟩, ⟨by repeat (first | (with_reducible first | exact HB.out | apply below_alloc | apply pw_below_drewN | apply below_drew1) | exact HB.out)⟩⟩
                                              · rw [if_neg c44] at H
                                                exact absurd H (by simp)
                                            · rw [if_neg c43] at H
                                              exact absurd H (by simp)
                                          · rw [if_neg c42] at H
                                            have c42b0 : decide (x98_5 < (t183.length : Int)) = false := decide_eq_false c42
                                            clear c42
                                            by_cases c46 : (wrap64 (x9_2 + 1)) = 1
                                            · rw [if_pos c46] at H
                                              have c46b0 : ((wrap64 (x9_2 + 1)) == 1) = true := beq_iff_eq.mpr c46
                                              have c46b1 : ((wrap64 (x9_2 + 1)) != 1) = false := bne_eq_false_iff_eq.mpr c46
                                              clear c46
                                              have H' := Aside0.mk H
                                              clear H
                                              go_wp2
                                              go_roundg k5
                                              case measure => have := HJ2.out; have := HK2.out; have := HJ13.out; have := HK4.out; have := HK5.out; omega
                                              case rel => exact ⟨((rdOf ByteArray.empty l0 x38_2)), (t183), (x8_5), ((wrap64 (x9_2 + 1))), (wrap64 (x38_2 + 1)), (by first | rfl | (simp; done) | (simp [*]; done)), (by first | rfl | (simp; done) | (simp [*]; done)), (by first | rfl | (simp; done) | (simp [*]; done)), (by first | rfl | (simp; done) | (simp [*]; done)), H', ⟨by have := HJ2.out; have := HK2.out; have := HJ13.out; have := HK4.out; have := HK5.out; omega⟩, ⟨by (with_reducible repeat (first | apply Kd.R_alloc | apply Kd.R_drewN | apply Kd.R_drew)); exact Kd.R_mono HO_16.out (fun _ hk => trivial)⟩, ⟨by repeat (first | (with_reducible first | exact HB.out | apply below_alloc | apply pw_below_drewN | apply below_drew1) | exact HB.out)⟩⟩
                                            · rw [if_neg c46] at H
                                              have c46b0 : ((wrap64 (x9_2 + 1)) == 1) = false := beq_eq_false_iff_ne.mpr c46
                                              have c46b1 : ((wrap64 (x9_2 + 1)) != 1) = true := bne_iff_ne.mpr c46
                                              replace H := Option.bind_eq_some_iff.mp H
                                              obtain ⟨t189, A470, H⟩ := H
                                              replace H : (if t189 = true then (spec_Match.l0 k5 l0 a1 (rdOf ByteArray.empty l0 x38_2) t183 x8_5 (wrap64 (x9_2 + 1)) l0 (l0.length : Int) (wrap64 (x38_2 + 1))) else (spec_Match.l0 k5 l0 a1 x4_4 x5_4 x8_5 (wrap64 (x9_2 + 1)) l0 (l0.length : Int) (wrap64 (x38_2 + 1)))) = some (r1, r2, r3, r4) := H
                                              have A47 := Aside0.mk A470
                                              clear A470
                                              by_cases c48 : t189 = true
                                              · subst c48
                                                have H1 : (spec_Match.l0 k5 l0 a1 (rdOf ByteArray.empty l0 x38_2) t183 x8_5 (wrap64 (x9_2 + 1)) l0 (l0.length : Int) (wrap64 (x38_2 + 1))) = some (r1, r2, r3, r4) := by rw [if_pos rfl] at H; exact H
                                                clear H
                                                have H := H1
                                                clear H1
                                                have H' := Aside0.mk H
                                                clear H
                                                go_wp2_with (first | (go_at_call 30; (with_reducible refine (spec_ahead.calls k5 (rdOf ByteArray.empty l0 x38_2) x4_4 true _ A47.out).mono ?_); rintro e w49 ⟨rfl, hb⟩; have n0_ := Aside0.mk (Kd.R_below (by (with_reducible repeat (first | apply Kd.R_alloc | apply Kd.R_drewN | apply Kd.R_drew)); exact HO_5.out) hb); have n1_ := Aside0.mk (Kd.R_below (by (with_reducible repeat (first | apply Kd.R_alloc | apply Kd.R_drewN | apply Kd.R_drew)); exact HO_16.out) hb); have n2_ := Aside0.mk (Kd.R_below (by (with_reducible repeat (first | apply Kd.R_alloc | apply Kd.R_drewN | apply Kd.R_drew)); exact HO_96.out) hb); have n3_ := Aside0.mk (below_step (by repeat (first | (with_reducible first | exact HB.out | apply below_alloc | apply pw_below_drewN | apply below_drew1) | exact HB.out)) hb); clear HO_5; clear HO_16; clear HO_96; clear HB; have HO_5 := n0_; have HO_16 := n1_; have HO_96 := n2_; have HB := n3_; clear n0_ n1_ n2_ n3_; (try clear hb); (try clear hb2); (try clear hk); (try clear hi)))
                                                go_roundg k5
                                                case measure => have := HJ2.out; have := HK2.out; have := HJ13.out; have := HK4.out; have := HK5.out; omega
                                                case rel => exact ⟨((rdOf ByteArray.empty l0 x38_2)), (t183), (x8_5), ((wrap64 (x9_2 + 1))), (wrap64 (x38_2 + 1)), (by first | rfl | (simp; done) | (simp [*]; done)), (by first | rfl | (simp; done) | (simp [*]; done)), (by first | rfl | (simp; done) | (simp [*]; done)), (by first | rfl | (simp; done) | (simp [*]; done)), H', ⟨by have := HJ2.out; have := HK2.out; have := HJ13.out; have := HK4.out; have := HK5.out; omega⟩, ⟨by (with_reducible repeat (first | apply Kd.R_alloc | apply Kd.R_drewN | apply Kd.R_drew)); exact Kd.R_mono HO_16.out (fun _ hk => trivial)⟩, ⟨by repeat (first | (with_reducible first | exact HB.out | apply below_alloc | apply pw_below_drewN | apply below_drew1) | exact HB.out)⟩⟩
                                              · replace c48 := Bool.eq_false_iff.mpr c48
                                                subst c48
                                                have H1 : (spec_Match.l0 k5 l0 a1 x4_4 x5_4 x8_5 (wrap64 (x9_2 + 1)) l0 (l0.length : Int) (wrap64 (x38_2 + 1))) = some (r1, r2, r3, r4) := by rw [if_neg (show ¬ (false = true) by decide)] at H; exact H
                                                clear H
                                                have H := H1
                                                clear H1
                                                have H' := Aside0.mk H
                                                clear H
                                                go_wp2_with (first | (go_at_call 30; (with_reducible refine (spec_ahead.calls k5 (rdOf ByteArray.empty l0 x38_2) x4_4 false _ A47.out).mono ?_); rintro e w50 ⟨rfl, hb⟩; have n0_ := Aside0.mk (Kd.R_below (by (with_reducible repeat (first | apply Kd.R_alloc | apply Kd.R_drewN | apply Kd.R_drew)); exact HO_5.out) hb); have n1_ := Aside0.mk (Kd.R_below (by (with_reducible repeat (first | apply Kd.R_alloc | apply Kd.R_drewN | apply Kd.R_drew)); exact HO_16.out) hb); have n2_ := Aside0.mk (Kd.R_below (by (with_reducible repeat (first | apply Kd.R_alloc | apply Kd.R_drewN | apply Kd.R_drew)); exact HO_96.out) hb); have n3_ := Aside0.mk (below_step (by repeat (first | (with_reducible first | exact HB.out | apply below_alloc | apply pw_below_drewN | apply below_drew1) | exact HB.out)) hb); clear HO_5; clear HO_16; clear HO_96; clear HB; have HO_5 := n0_; have HO_16 := n1_; have HO_96 := n2_; have HB := n3_; clear n0_ n1_ n2_ n3_; (try clear hb); (try clear hb2); (try clear hk); (try clear hi)))
                                                go_roundg k5
                                                case measure => have := HJ2.out; have := HK2.out; have := HJ13.out; have := HK4.out; have := HK5.out; omega
                                                case rel => exact ⟨(x4_4), (x5_4), (x8_5), ((wrap64 (x9_2 + 1))), (wrap64 (x38_2 + 1)), (by first | rfl | (simp; done) | (simp [*]; done)), (by first | rfl | (simp; done) | (simp [*]; done)), (by first | rfl | (simp; done) | (simp [*]; done)), (by first | rfl | (simp; done) | (simp [*]; done)), H', ⟨by have := HJ2.out; have := HK2.out; have := HJ13.out; have := HK4.out; have := HK5.out; omega⟩, ⟨by (with_reducible repeat (first | apply Kd.R_alloc | apply Kd.R_drewN | apply Kd.R_drew)); exact Kd.R_mono HO_5.out (fun _ hk => trivial)⟩, ⟨by repeat (first | (with_reducible first | exact HB.out | apply below_alloc | apply pw_below_drewN | apply below_drew1) | exact HB.out)⟩⟩
                                    · replace c39 := Bool.eq_false_iff.mpr c39
                                      subst c39
                                      have H1 : (spec_Match.l0 k4 l0 a1 x4_4 x5_4 x8_2 x9_2 l0 (l0.length : Int) (wrap64 (x38_2 + 1))) = some (r1, r2, r3, r4) := by rw [if_neg (show ¬ (false = true) by decide)] at H; exact H
                                      clear H
                                      have H := H1
                                      clear H1
                                      have H' := Aside0.mk H
                                      clear H
                                      go_wp2_with (first | ((with_reducible refine gate_callee (f := 29) rfl ?_); refine goesL_ (some 86) rfl rfl Tryd.func29 (by kernel_rfl) rfl #[.string (rdOf ByteArray.empty l0 x38_2), .string a1] rfl (by (try simp only [List.map_toArray, List.map_cons, List.map_nil]); first | done | rfl | (simp only [List.length_drop, List.length_take]; rfl)) ?_; (with_reducible refine (spec_values.calls k4 (rdOf ByteArray.empty l0 x38_2) a1 t183 false t185 _ A37.out).mono ?_); rintro e w51 ⟨v186, rfl, ho0, hb⟩; refine ⟨_, rfl, ?_⟩; have n0_ := Aside0.mk (Kd.R_elder' (by (with_reducible repeat (first | apply Kd.R_alloc | apply Kd.R_drewN | apply Kd.R_drew)); exact HO_5.out) (Kd.R_base ho0) hb); have n1_ := Aside0.mk (Kd.R_lower (Kd.R_new' ho0 (Kd.R_lt (by (with_reducible repeat (first | apply Kd.R_alloc | apply Kd.R_drewN | apply Kd.R_drew)); exact HO_5.out))) (below_size (by repeat (first | (with_reducible first | exact HB.out | apply below_alloc | apply pw_below_drewN | apply below_drew1) | exact HB.out)))); have n2_ := Aside0.mk (below_step (by repeat (first | (with_reducible first | exact HB.out | apply below_alloc | apply pw_below_drewN | apply below_drew1) | exact HB.out)) hb); clear HO_5; clear HB; have HO_5 := n0_; have HO187 := n1_; have HB := n2_; clear n0_ n1_ n2_; (try clear hb); (try clear hb2); (try clear hk); (try clear hi); (try clear ho0)))
                                      go_roundg k4
                                      case measure => have := HJ2.out; have := HK2.out; have := HJ13.out; have := HK4.out; omega
                                      case rel => exact ⟨(x4_4), (x5_4), (x8_2), (x9_2), (wrap64 (x38_2 + 1)), (by first | rfl | (simp; done) | (simp [*]; done)), (by first | rfl | (simp; done) | (simp [*]; done)), (by first | rfl | (simp; done) | (simp [*]; done)), (by first | rfl | (simp; done) | (simp [*]; done)), H', ⟨by have := HJ2.out; have := HK2.out; have := HJ13.out; have := HK4.out; omega⟩, ⟨by (with_reducible repeat (first | apply Kd.R_alloc | apply Kd.R_drewN | apply Kd.R_drew)); exact Kd.R_mono HO_5.out (fun _ hk => trivial)⟩, ⟨by repeat (first | (with_reducible first | exact HB.out | apply below_alloc | apply pw_below_drewN | apply below_drew1) | exact HB.out)⟩⟩
                                  · rw [if_neg c38] at H
                                    have c38b0 : (t185 == 1) = false := beq_eq_false_iff_ne.mpr c38
                                    have c38b1 : (t185 != 1) = true := bne_iff_ne.mpr c38
                                    simp only [Option.some.injEq, Prod.mk.injEq] at H
                                    obtain ⟨rfl, rfl, rfl, rfl⟩ := H
                                    go_wp2_with (first | ((with_reducible refine gate_callee (f := 29) rfl ?_); refine goesL_ (some 86) rfl rfl Tryd.func29 (by kernel_rfl) rfl #[.string (rdOf ByteArray.empty l0 x38_2), .string a1] rfl (by (try simp only [List.map_toArray, List.map_cons, List.map_nil]); first | done | rfl | (simp only [List.length_drop, List.length_take]; rfl)) ?_; (with_reducible refine (spec_values.calls k4 (rdOf ByteArray.empty l0 x38_2) a1 t183 t184 t185 _ A37.out).mono ?_); rintro e w52 ⟨v186, rfl, ho0, hb⟩; refine ⟨_, rfl, ?_⟩; have n0_ := Aside0.mk (Kd.R_elder' (by (with_reducible repeat (first | apply Kd.R_alloc | apply Kd.R_drewN | apply Kd.R_drew)); exact HO_5.out) (Kd.R_base ho0) hb); have n1_ := Aside0.mk (Kd.R_lower (Kd.R_new' ho0 (Kd.R_lt (by (with_reducible repeat (first | apply Kd.R_alloc | apply Kd.R_drewN | apply Kd.R_drew)); exact HO_5.out))) (below_size (by repeat (first | (with_reducible first | exact HB.out | apply below_alloc | apply pw_below_drewN | apply below_drew1) | exact HB.out)))); have n2_ := Aside0.mk (below_step (by repeat (first | (with_reducible first | exact HB.out | apply below_alloc | apply pw_below_drewN | apply below_drew1) | exact HB.out)) hb); clear HO_5; clear HB; have HO_5 := n0_; have HO187 := n1_; have HB := n2_; clear n0_ n1_ n2_; (try clear hb); (try clear hb2); (try clear hk); (try clear hi); (try clear ho0)))
                                    refine bodyPost_ret (results_list (rs := [.tmp 4, .tmp 5, .tmp 6, .tmp 7]) rfl (by simp) (.tmp (.tmp (.tmp (.tmp .nil))))) rfl ?_
                                    exact ⟨_, by first | rfl | (simp [errW_none, errW_some] <;> rfl) | (simp [*, errW_none, errW_some] <;> rfl), by first | exact Kd.R_nil _ _ _ _ _ | exact Kd.N_nil _ _ _ _ _ | exact Kd.V_nil _ _ _ _ _ | exact Kd.Q_nil _ _ _ _ _ | exact Kd.S_nil _ _ _ _ _, by repeat (first | (with_reducible first | exact HB.out | apply below_alloc | apply pw_below_drewN | apply below_drew1) | exact HB.out)⟩
                          · rw [if_neg c27] at H
                            exact absurd H (by simp)
                        · rw [if_neg c26] at H
                          exact absurd H (by simp)
                · rw [if_neg c12] at H
                  exact absurd H (by simp)
              · rw [if_neg c11] at H
                exact absurd H (by simp)
            · rw [if_neg c10] at H
              have c10b0 : decide (x38_2 < (l0.length : Int)) = false := decide_eq_false c10
              clear c10
              by_cases c53 : x9_2 > 1
              · rw [if_pos c53] at H
                have c53b0 : decide (1 < x9_2) = true := decide_eq_true c53
                clear c53
                by_cases c54 : x8_2 = true
                · subst c54
                  have H1 : ((spec_Concrete.f k2 x4_2).bind fun t190 => (if t190 = true then ((spec_stripped.f x4_2).bind fun t191 => ((spec_stripped.f a1).bind fun t192 => (if t191.toList = t192.toList then (some (x4_2, x5_2, decide (x9_2 > 0), 1)) else (some ((⟨#[]⟩ : ByteArray), ([] : List ByteArray), false, 2))))) else (some ((⟨#[]⟩ : ByteArray), ([] : List ByteArray), false, 2)))) = some (r1, r2, r3, r4) := by rw [if_pos rfl] at H; exact H
                  clear H
                  have H := H1
                  clear H1
                  replace H := Option.bind_eq_some_iff.mp H
                  obtain ⟨t190, A550, H⟩ := H
                  replace H : (if t190 = true then ((spec_stripped.f x4_2).bind fun t191 => ((spec_stripped.f a1).bind fun t192 => (if t191.toList = t192.toList then (some (x4_2, x5_2, decide (x9_2 > 0), 1)) else (some ((⟨#[]⟩ : ByteArray), ([] : List ByteArray), false, 2))))) else (some ((⟨#[]⟩ : ByteArray), ([] : List ByteArray), false, 2))) = some (r1, r2, r3, r4) := H
                  have A55 := Aside0.mk A550
                  clear A550
                  by_cases c56 : t190 = true
                  · subst c56
                    have H1 : ((spec_stripped.f x4_2).bind fun t191 => ((spec_stripped.f a1).bind fun t192 => (if t191.toList = t192.toList then (some (x4_2, x5_2, decide (x9_2 > 0), 1)) else (some ((⟨#[]⟩ : ByteArray), ([] : List ByteArray), false, 2))))) = some (r1, r2, r3, r4) := by rw [if_pos rfl] at H; exact H
                    clear H
                    have H := H1
                    clear H1
                    replace H := Option.bind_eq_some_iff.mp H
                    obtain ⟨t191, A570, H⟩ := H
                    replace H : ((spec_stripped.f a1).bind fun t192 => (if t191.toList = t192.toList then (some (x4_2, x5_2, decide (x9_2 > 0), 1)) else (some ((⟨#[]⟩ : ByteArray), ([] : List ByteArray), false, 2)))) = some (r1, r2, r3, r4) := H
                    have A57 := Aside0.mk A570
                    clear A570
                    replace H := Option.bind_eq_some_iff.mp H
                    obtain ⟨t192, A580, H⟩ := H
                    replace H : (if t191.toList = t192.toList then (some (x4_2, x5_2, decide (x9_2 > 0), 1)) else (some ((⟨#[]⟩ : ByteArray), ([] : List ByteArray), false, 2))) = some (r1, r2, r3, r4) := H
                    have A58 := Aside0.mk A580
                    clear A580
                    by_cases c59 : t191.toList = t192.toList
                    · rw [if_pos c59] at H
                      have c59b0 : (t191.toList == t192.toList) = true := beq_iff_eq.mpr c59
                      have c59b1 : (t191.toList != t192.toList) = false := bne_eq_false_iff_eq.mpr c59
                      clear c59
                      simp only [Option.some.injEq, Prod.mk.injEq] at H
                      obtain ⟨rfl, rfl, rfl, rfl⟩ := H
                      go_wp2_with (first | (go_at_call 24; (with_reducible refine (spec_Concrete.calls k2 x4_2 true _ A55.out).mono ?_); rintro e w' ⟨rfl, ⟨nd, rfl⟩⟩) | (go_at_call 28; (with_reducible refine (spec_stripped.calls x4_2 t191 _ A57.out).mono ?_); rintro e w' ⟨rfl, ⟨nd, rfl⟩⟩) | (go_at_call 28; (with_reducible refine (spec_stripped.calls a1 t192 _ A58.out).mono ?_); rintro e w' ⟨rfl, ⟨nd, rfl⟩⟩))
                      refine bodyPost_ret (results_list (rs := [.tmp 4, .tmp 5, .tmp 6, .tmp 7]) rfl (by simp) (.tmp (.tmp (.tmp (.tmp .nil))))) rfl ?_
                      exact ⟨_, by first | rfl | (simp [errW_none, errW_some] <;> rfl) | (simp [*, errW_none, errW_some] <;> rfl), by (with_reducible repeat (first | apply Kd.R_alloc | apply Kd.R_drewN | apply Kd.R_drew)); exact HO_5.out, by repeat (first | (with_reducible first | exact HB.out | apply below_alloc | apply pw_below_drewN | apply below_drew1) | exact HB.out)⟩
                    · rw [if_neg c59] at H
                      have c59b0 : (t191.toList == t192.toList) = false := beq_eq_false_iff_ne.mpr c59
                      have c59b1 : (t191.toList != t192.toList) = true := bne_iff_ne.mpr c59
                      simp only [Option.some.injEq, Prod.mk.injEq] at H
                      obtain ⟨rfl, rfl, rfl, rfl⟩ := H
                      go_wp2_with (first | (go_at_call 24; (with_reducible refine (spec_Concrete.calls k2 x4_2 true _ A55.out).mono ?_); rintro e w' ⟨rfl, ⟨nd, rfl⟩⟩) | (go_at_call 28; (with_reducible refine (spec_stripped.calls x4_2 t191 _ A57.out).mono ?_); rintro e w' ⟨rfl, ⟨nd, rfl⟩⟩) | (go_at_call 28; (with_reducible refine (spec_stripped.calls a1 t192 _ A58.out).mono ?_); rintro e w' ⟨rfl, ⟨nd, rfl⟩⟩))
                      refine bodyPost_ret (results_list (rs := [.tmp 4, .tmp 5, .tmp 6, .tmp 7]) rfl (by simp) (.tmp (.tmp (.tmp (.tmp .nil))))) rfl ?_
                      exact ⟨_, by first | rfl | (simp [errW_none, errW_some] <;> rfl) | (simp [*, errW_none, errW_some] <;> rfl), by first | exact Kd.R_nil _ _ _ _ _ | exact Kd.N_nil _ _ _ _ _ | exact Kd.V_nil _ _ _ _ _ | exact Kd.Q_nil _ _ _ _ _ | exact Kd.S_nil _ _ _ _ _, by repeat (first | (with_reducible first | exact HB.out | apply below_alloc | apply pw_below_drewN | apply below_drew1) | exact HB.out)⟩
                  · replace c56 := Bool.eq_false_iff.mpr c56
                    subst c56
                    have H1 : (some ((⟨#[]⟩ : ByteArray), ([] : List ByteArray), false, 2)) = some (r1, r2, r3, r4) := by rw [if_neg (show ¬ (false = true) by decide)] at H; exact H
                    clear H
                    have H := H1
                    clear H1
                    simp only [Option.some.injEq, Prod.mk.injEq] at H
                    obtain ⟨rfl, rfl, rfl, rfl⟩ := H
                    go_wp2_with (first | (go_at_call 24; (with_reducible refine (spec_Concrete.calls k2 x4_2 false _ A55.out).mono ?_); rintro e w' ⟨rfl, ⟨nd, rfl⟩⟩))
                    refine bodyPost_ret (results_list (rs := [.tmp 4, .tmp 5, .tmp 6, .tmp 7]) rfl (by simp) (.tmp (.tmp (.tmp (.tmp .nil))))) rfl ?_
                    exact ⟨_, by first | rfl | (simp [errW_none, errW_some] <;> rfl) | (simp [*, errW_none, errW_some] <;> rfl), by first | exact Kd.R_nil _ _ _ _ _ | exact Kd.N_nil _ _ _ _ _ | exact Kd.V_nil _ _ _ _ _ | exact Kd.Q_nil _ _ _ _ _ | exact Kd.S_nil _ _ _ _ _, by repeat (first | (with_reducible first | exact HB.out | apply below_alloc | apply pw_below_drewN | apply below_drew1) | exact HB.out)⟩
                · replace c54 := Bool.eq_false_iff.mpr c54
                  subst c54
                  have H1 : (some (x4_2, x5_2, decide (x9_2 > 0), 1)) = some (r1, r2, r3, r4) := by rw [if_neg (show ¬ (false = true) by decide)] at H; exact H
                  clear H
                  have H := H1
                  clear H1
                  simp only [Option.some.injEq, Prod.mk.injEq] at H
                  obtain ⟨rfl, rfl, rfl, rfl⟩ := H
                  go_wp2
                  refine bodyPost_ret (results_list (rs := [.tmp 4, .tmp 5, .tmp 6, .tmp 7]) rfl (by simp) (.tmp (.tmp (.tmp (.tmp .nil))))) rfl ?_
                  exact ⟨_, by first | rfl | (simp [errW_none, errW_some] <;> rfl) | (simp [*, errW_none, errW_some] <;> rfl), by (with_reducible repeat (first | apply Kd.R_alloc | apply Kd.R_drewN | apply Kd.R_drew)); exact HO_5.out, by repeat (first | (with_reducible first | exact HB.out | apply below_alloc | apply pw_below_drewN | apply below_drew1) | exact HB.out)⟩
              · rw [if_neg c53] at H
                have c53b0 : decide (1 < x9_2) = false := decide_eq_false c53
                clear c53
                simp only [Option.some.injEq, Prod.mk.injEq] at H
                obtain ⟨rfl, rfl, rfl, rfl⟩ := H
                go_wp2
                refine bodyPost_ret (results_list (rs := [.tmp 4, .tmp 5, .tmp 6, .tmp 7]) rfl (by simp) (.tmp (.tmp (.tmp (.tmp .nil))))) rfl ?_
                exact ⟨_, by first | rfl | (simp [errW_none, errW_some] <;> rfl) | (simp [*, errW_none, errW_some] <;> rfl), by (with_reducible repeat (first | apply Kd.R_alloc | apply Kd.R_drewN | apply Kd.R_drew)); exact HO_5.out, by repeat (first | (with_reducible first | exact HB.out | apply below_alloc | apply pw_below_drewN | apply below_drew1) | exact HB.out)⟩

end Go.Proofs.YtpdnjgbcnnjdiaaDoor.PFnMatch
