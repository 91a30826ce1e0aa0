/- laws.pattern: the text of a list of pieces. -/
import Derived.Test.YtpdnjgbcnnjdiaaDoorRouted
import Derived.Test.YtpdnjgbcnnjdiaaDoorCutBack
namespace Go.Proofs.YtpdnjgbcnnjdiaaDoor
open Go Go.RowKit Go.Proofs.YtpdnjgbcnnjdiaaDoorW.PrintWords Go.Proofs.YtpdnjgbcnnjdiaaDoor.PFnMatchBack
set_option linter.unusedVariables false
set_option linter.unusedSimpArgs false

def pieceB (x : S33) : Bs := if x.f0 = true then 47 :: 123 :: (x.f1.data.toList ++ [125]) else 47 :: x.f1.data.toList
def patB (l : List S33) : Bs := l.flatMap pieceB
theorem patB_len (l : List S33) (h : ∀ x ∈ l, x.f1.size ≤ 100) : (patB l).length ≤ l.length * 103 := by
  induction l with
  | nil => simp [patB]
  | cons a r ih =>
    have h1 := ih fun x hx => h x (List.mem_cons_of_mem _ hx)
    have ha := h a (List.mem_cons_self ..)
    have h2 : (pieceB a).length ≤ 103 := by
      unfold pieceB
      split <;> simp [size_list] <;> omega
    unfold patB at h1 ⊢
    rw [List.flatMap_cons, List.length_append, List.length_cons, Nat.add_mul, Nat.one_mul]
    omega

theorem patB_snoc (l : List S33) (i : Nat) (h : i < l.length) : patB (l.take (i + 1)) = patB (l.take i) ++ pieceB l[i] := by
  have ht : l.take (i + 1) = l.take i ++ [l[i]] := by rw [List.take_add_one, List.getElem?_eq_getElem h]; rfl
  unfold patB
  rw [ht, List.flatMap_append, List.flatMap_cons, List.flatMap_nil, List.append_nil]

set_option maxHeartbeats 1000000 in
set_option maxRecDepth 10000 in
theorem pattern (A : Option Addr) (c : Nat) (l : List S33) (w : World) (hr : Kd.C k33 w A l.length l) (hc : l.length ≤ c) (hl : l.length ≤ 6) (hx : ∀ x ∈ l, x.f1.size ≤ 100) :
    Calls Tryd.prog 17 #[.slice A l.length c] w fun e w' => e = .returned (.string (mkS (patB l))) ∧ Below w.heap.size w w' := by
  have hu33 := Tryd.underlying33
  have HR := Lib.hid hr
  have HX := Lib.hid hx
  have HB0 := Lib.hid (Below.refl w.heap.size w)
  clear hr hx
  go_enter Tryd.func17, Tryd.ntmps17
  go_wp2
  go_loopg [3, 8] l.length (fun g v3 v8 w' => ∃ i : Nat, i + g = l.length ∧ v3 = .string (mkS (patB (l.take i))) ∧ v8 = .int .i64 i ∧ Hid (Below w.heap.size w w'))
  case atStart => exact ⟨0, by simp, rfl, rfl, HB0⟩
  case round =>
    obtain ⟨i, hi, rfl, rfl, HB⟩ := hrel
    cases gk with
    | zero =>
      have : i = l.length := by omega
      subst this
      go_wp2_with fail
      go_ret
      exact ⟨by rw [List.take_length]; rfl, HB.out⟩
    | succ k =>
      have hil : i < l.length := by omega
      obtain ⟨ad, rfl, hc0, hc1⟩ := at_T33 (Kd.C_below HR.out HB.out) (i : Int) (by omega) (by omega)
      rw [show ((i : Int)).toNat = i from by simp, show rd_T33 l (i : Int) = l[i] from by simp [rd_T33, List.getD, hil]] at hc0 hc1
      have hsz := HX.out _ (List.getElem_mem hil)
      have hpre : (mkS (patB (l.take i))).size ≤ 1000 := by
        rw [mkS_size]
        have := patB_len (l.take i) (fun x hx => HX.out x (List.mem_of_mem_take hx))
        rw [List.length_take] at this
        omega
      have hw1 : wrap64 ((i : Int) + 1) = ((i + 1 : Nat) : Int) := by unfold wrap64; omega
      have hnx := patB_snoc l i hil
      have HNX := Lib.hid hnx
      clear hnx
      generalize hpp : l[i] = pp at hc0 hc1 hsz HNX
      clear hpp
      obtain ⟨f0, f1⟩ := pp
      replace hsz : f1.size ≤ 100 := hsz
      have b1 : (9223372036854775807 < 2 + f1.size + 1) = False := eq_false (by omega)
      have b2 : (9223372036854775807 < (mkS (patB (List.take i l))).size + (2 + f1.size + 1)) = False := eq_false (by omega)
      have b3 : (9223372036854775807 < (mkS (patB (List.take i l))).size + (1 + f1.size)) = False := eq_false (by omega)
      have HB2 := Lib.hid (HB.out.alloc HB.out.size (.cells #[.bool f0, .string f1] 33))
      cases f0 with
      | true =>
        go_wp2_with fail
        go_roundg k
        case rel =>
          refine ⟨i + 1, by omega, ?_, by simp, HB2⟩
          rw [HNX.out, pieceB, if_pos rfl]
          congr 1 <;> (apply mkS_eq; simp [mkS])
        case measure => omega
      | false =>
        go_wp2_with fail
        go_roundg k
        case rel =>
          refine ⟨i + 1, by omega, ?_, by simp, HB2⟩
          rw [HNX.out, pieceB, if_neg (by simp)]
          congr 1 <;> (apply mkS_eq; simp [mkS])
        case measure => omega
end Go.Proofs.YtpdnjgbcnnjdiaaDoor
