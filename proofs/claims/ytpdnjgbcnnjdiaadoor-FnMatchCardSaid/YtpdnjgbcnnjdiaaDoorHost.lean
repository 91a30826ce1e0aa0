/- PathFromHost: a host's parts from the last one on. -/
import Derived.Test.YtpdnjgbcnnjdiaaDoorRouted
import Derived.Lib.AppendStr
namespace Go.Proofs.YtpdnjgbcnnjdiaaDoor
open Go Go.RowKit Go.Proofs.YtpdnjgbcnnjdiaaDoorW.PrintWords
set_option linter.unusedVariables false
set_option linter.unusedSimpArgs false

/-- A host's parts from the last one on; what is given is the host, turned round, and what stands behind it. -/
def pf (d : Bool) : Bs → Bs → Bs
  | [], seg => seg
  | c :: r, seg => if c = 46 then seg ++ [47, 46, 47] ++ pf d r [] else if c = 45 ∧ d = true then seg ++ [47, 45, 47] ++ pf d r [] else pf d r (c :: seg)

theorem bt_nat (s : ByteArray) (k : Nat) (h : k < s.size) : bt s (k : Int) = ((s.data.toList[k]'(by rw [Array.length_toList]; exact h)).toNat : Int) := by
  unfold bt
  rw [dif_pos (by simpa using h)]
  simp [ByteArray.getElem_eq_getElem_data]
theorem strOf_bytes (s : ByteArray) : strOfNums (bytesOf s) = s := by
  have hinj : ∀ {a b : ByteArray}, a.data.toList = b.data.toList → a = b := fun {a b} h => by rw [← mkS_self a, h, mkS_self]
  apply hinj
  rw [strOfNums_data, bytesOf, List.map_map]
  have : ∀ l : Bs, l.map ((fun n : Int => UInt8.ofNat n.toNat) ∘ fun b : UInt8 => (b.toNat : Int)) = l := by
    intro l
    induction l with
    | nil => rfl
    | cons a r ih => rw [List.map_cons, ih]; simp
  exact this _
theorem bytesOf_append (s t : ByteArray) : bytesOf s ++ bytesOf t = bytesOf (mkS (s.data.toList ++ t.data.toList)) := by
  simp [bytesOf, mkS]

theorem ne_byte {a b : UInt8} (h : a ≠ b) : ((a.toNat : Int) == (b.toNat : Int)) = false := by
  rw [beq_eq_false_iff_ne]
  intro h2
  exact h (UInt8.toNat_inj.1 (by omega))
theorem drop_take_nil (l : Bs) (k : Nat) : (l.take k).drop k = [] := by simp
theorem host_step (l : Bs) (k e : Nat) (h : k < l.length) (hke : k + 1 ≤ e) : (l.take (k + 1)).reverse = l[k] :: (l.take k).reverse ∧ (l.take e).drop k = l[k] :: (l.take e).drop (k + 1) := by
  constructor
  · rw [List.take_add_one, List.getElem?_eq_getElem h]; simp
  · have : k < (l.take e).length := by simp; omega
    rw [List.drop_eq_getElem_cons this]; simp

theorem three_one (a b c : Int) : ∀ u ∈ [Value.int .u8 a, .int .u8 b, .int .u8 c], u.oneCell' = true := by
  intro u hu
  simp only [List.mem_cons, List.not_mem_nil, or_false] at hu
  rcases hu with rfl | rfl | rfl <;> rfl
theorem host_own {w : World} {base : Nat} {v : Value} {xs ys : Bs} {e k : Nat} {s : ByteArray} (c : UInt8) (hs : s.extract (k + 1) e = mkS ys) (h : w.ownsRow base 5 1 v ((bytesOf (mkS xs) ++ bytesOf (s.extract (k + 1) e)).length + 3) (nums .u8 (bytesOf (mkS xs) ++ bytesOf (s.extract (k + 1) e)) ++ [.int .u8 47, .int .u8 c.toNat, .int .u8 47])) :
    w.ownsRow base 5 1 v (bytesOf (mkS (xs ++ ys ++ [47, c, 47]))).length (nums .u8 (bytesOf (mkS (xs ++ ys ++ [47, c, 47])))) := by
  rw [hs] at h
  have h1 : (bytesOf (mkS (xs ++ ys ++ [47, c, 47]))).length = (bytesOf (mkS xs) ++ bytesOf (mkS ys)).length + 3 := by simp [bytesOf, mkS, Nat.add_assoc]
  have h2 : nums .u8 (bytesOf (mkS (xs ++ ys ++ [47, c, 47]))) = nums .u8 (bytesOf (mkS xs) ++ bytesOf (mkS ys)) ++ [.int .u8 47, .int .u8 c.toNat, .int .u8 47] := by
    simp only [nums, bytesOf, mkS, List.map_append, List.append_assoc]
    rfl
  rw [h1, h2]
  exact h

theorem infoU8 : (Tryd.prog.info? 5).map (fun i => (i.zero, i.size, i.bytes)) = some (some (.int .u8 0), 1, 1) := by kernel_rfl

set_option maxHeartbeats 1000000 in
set_option maxRecDepth 10000 in
theorem pathFromHost (s : ByteArray) (d : Bool) (w : World) (hs : s.size ≤ 1000) :
    Calls Tryd.prog 40 #[.string s, .bool d] w fun e w' => e = .returned (.string (mkS (pf d s.data.toList.reverse []))) ∧ Below w.heap.size w w' := by
  obtain ⟨i0, hi, hz0, hz1, hz2⟩ := info_parts infoU8
  go_enter Tryd.func40, Tryd.ntmps40
  go_wp2_with (at_make; refine wpList_make_own _ rfl _ _ 87 rfl w.heap.size 5 i0 (.int .u8 0) 1 Tryd.underlying87 hi hz0 hz1 .i64 .i64 _ s.size rfl rfl (by first | rfl | omega) (by rw [hz2]; omega) (by unfold maxLen; omega) (Nat.le_refl _) ?_; intro w0 hown0 hgrow0)
  have hbel : Below w.heap.size w w0 := (Below.refl _ _).grown hgrow0 (Nat.le_refl _) (fun k h => by cases h)
  clear hgrow0
  go_loopg [5, 6, 7] s.size (fun g v5 v6 v7 wr => ∃ (e : Nat) (xs : Bs), v6 = .int .i64 e ∧ v7 = .int .i64 ((g : Int) - 1) ∧ g ≤ e ∧ e ≤ s.size ∧ xs.length + e + 3 * g ≤ 4 * s.size ∧ Hid (xs ++ pf d (s.data.toList.take g).reverse ((s.data.toList.take e).drop g) = pf d s.data.toList.reverse []) ∧ Hid (wr.ownsRow w.heap.size 5 1 v5 (bytesOf (mkS xs)).length (nums .u8 (bytesOf (mkS xs)))) ∧ Hid (Below w.heap.size w wr))
  case atStart =>
    refine ⟨s.size, [], rfl, rfl, Nat.le_refl _, Nat.le_refl _, by simp; omega, ?_, ?_, hbel⟩
    · show _ = _
      have h1 : s.data.toList.take s.size = s.data.toList := List.take_of_length_le (by rw [Array.length_toList]; exact Nat.le_refl _)
      rw [h1, List.drop_of_length_le (by rw [Array.length_toList]; exact Nat.le_refl _), List.nil_append]
    · exact hown0
  case round =>
    obtain ⟨e, xs, rfl, rfl, hge, he, hx, HEQ, HO, HB⟩ := hrel
    have hl0 : (bytesOf (mkS xs)).length = xs.length := by rw [bytesOf_length, mkS_size]
    have HL := Lib.hid hl0
    have hbase := HB.out.size
    clear hl0
    cases gk with
    | zero =>
      rw [show (((0 : Nat) : Int) - 1) = -1 from rfl]
      have hsz : (s.extract 0 e).size = e := by rw [ByteArray.size_extract]; omega
      have HSZ := Lib.hid hsz
      clear hsz
      go_wp2_with (at_builtin; go_loud (refine print_append_str (w0 := w) w.heap.size rfl _ _ 87 9 5 rfl Tryd.underlying87 Tryd.underlying9 infoU8 _ (bytesOf (mkS xs)) (s.extract 0 e) rfl rfl HO.out HB.out hbase (by rw [HL.out, HSZ.out]; omega) ?_); intro v1 w1 hown1 hb1 hg1; have hcv := own_string Tryd.underlying87 Tryd.underlying5 Tryd.underlying9 hown1)
      go_ret
      refine ⟨?_, hb1⟩
      have hq := HEQ.out
      simp only [List.take_zero, List.reverse_nil, pf, List.drop_zero] at hq
      rw [bytesOf_append, strOf_bytes, mkS_toList, ext_list, List.drop_zero, Nat.sub_zero, hq]
      rfl
    | succ k =>
      rw [show (((k + 1 : Nat) : Int) - 1) = (k : Int) from by omega]
      have hks : k < s.size := by omega
      have hk : k < s.data.toList.length := by rw [size_list]; exact hks
      obtain ⟨hs1, hs2⟩ := host_step s.data.toList k e hk hge
      have HEQ2 := HEQ.out
      rw [hs1] at HEQ2
      have hc : s[k]'hks = s.data.toList[k]'hk := by simp [ByteArray.getElem_eq_getElem_data]
      have hw1 : wrap64 ((k : Int) + 1) = ((k + 1 : Nat) : Int) := by
        clear HEQ2 HEQ hs1 hs2 hc
        unfold wrap64; omega
      have hsz : (s.extract (k + 1) e).size = e - (k + 1) := by
        rw [ByteArray.size_extract, Nat.min_eq_left he]
      have HSZ := Lib.hid hsz
      have HS2 := Lib.hid hs2
      have HC := Lib.hid hc
      have HQ2 := Lib.hid HEQ2
      have hxs : s.extract (k + 1) e = mkS ((s.data.toList.take e).drop (k + 1)) := by
        rw [← mkS_self (s.extract (k + 1) e), ext_list, List.drop_take]
      have HXS := Lib.hid hxs
      have hlen : xs.length + (e - (k + 1)) ≤ 4000 := by omega
      clear hs1 hs2 hsz HEQ hc HEQ2 hxs
      by_cases h46 : s[k]'hks = 46
      · have hb46 : (((s[k]'hks).toNat : Int) == 46) = true := by rw [h46]; rfl
        go_wp2_with (first
          | (at_builtin; refine print_append_str (w0 := w) w.heap.size rfl _ _ 87 9 5 rfl Tryd.underlying87 Tryd.underlying9 infoU8 _ (bytesOf (mkS xs)) (s.extract (k + 1) e) rfl rfl HO.out HB.out hbase (by rw [HL.out, HSZ.out]; omega) ?_; intro v1 w1 hown1 hb1 hg1; have hsz1 := hb1.size; have H1 := Lib.hid hown1; have HG1 := Lib.hid hb1; have HL1 := Lib.hid (show (bytesOf (mkS xs) ++ bytesOf (s.extract (k + 1) e)).length = xs.length + (e - (k + 1)) from by rw [List.length_append, HL.out, bytesOf_length, HSZ.out]); clear hown1 hb1 hg1)
          | (at_builtin; (refine wpList_append_own _ rfl _ _ 87 rfl w.heap.size 5 i0 (.int .u8 0) 1 1 Tryd.underlying87 hi hz0 hz1 hz2 rfl (by decide) _ _ _ rfl (H1.out.alloc _) ⟨w1.heap.size, 0, none⟩ 3 3 [.int .u8 47, .int .u8 46, .int .u8 47] rfl rfl (cell_three_new _ _ _ _ _) (three_one _ _ _) (by rw [HL1.out]; unfold maxLen; omega) (by rw [HL1.out]; omega) (by simp; omega) ?_); intro v2 w2 hown2 hgrow2 hnil2; have HOW := Lib.hid (host_own 46 HXS.out hown2); have hb2 := ((HG1.out).alloc HG1.out.size _).grown hgrow2 (by simp; omega) (fun j hj => (H1.out.lt j hj).1); have HB2 := Lib.hid hb2; clear hown2 hgrow2 hnil2 hb2))
        go_roundg k
        case measure => omega
        case rel =>
          refine ⟨k, xs ++ (s.data.toList.take e).drop (k + 1) ++ [47, 46, 47], rfl, rfl, Nat.le_refl _, by omega, ?_, ?_, HOW.out, HB2.out⟩
          · simp only [List.length_append, List.length_cons, List.length_nil, List.length_drop, List.length_take, size_list]; omega
          · show _ = _
            rw [← HQ2.out, ← HC.out, h46, drop_take_nil]
            simp [pf]
      · have hb46 : (((s[k]'hks).toNat : Int) == 46) = false := ne_byte (b := 46) h46
        by_cases h45 : s[k]'hks = 45 ∧ d = true
        · obtain ⟨h45, rfl⟩ := h45
          have hb45 : (((s[k]'hks).toNat : Int) == 45) = true := by rw [h45]; rfl
          go_wp2_with (first
            | (at_builtin; refine print_append_str (w0 := w) w.heap.size rfl _ _ 87 9 5 rfl Tryd.underlying87 Tryd.underlying9 infoU8 _ (bytesOf (mkS xs)) (s.extract (k + 1) e) rfl rfl HO.out HB.out hbase (by rw [HL.out, HSZ.out]; omega) ?_; intro v1 w1 hown1 hb1 hg1; have hsz1 := hb1.size; have H1 := Lib.hid hown1; have HG1 := Lib.hid hb1; have HL1 := Lib.hid (show (bytesOf (mkS xs) ++ bytesOf (s.extract (k + 1) e)).length = xs.length + (e - (k + 1)) from by rw [List.length_append, HL.out, bytesOf_length, HSZ.out]); clear hown1 hb1 hg1)
            | (at_builtin; (refine wpList_append_own _ rfl _ _ 87 rfl w.heap.size 5 i0 (.int .u8 0) 1 1 Tryd.underlying87 hi hz0 hz1 hz2 rfl (by decide) _ _ _ rfl (H1.out.alloc _) ⟨w1.heap.size, 0, none⟩ 3 3 [.int .u8 47, .int .u8 45, .int .u8 47] rfl rfl (cell_three_new _ _ _ _ _) (three_one _ _ _) (by rw [HL1.out]; unfold maxLen; omega) (by rw [HL1.out]; omega) (by simp; omega) ?_); intro v2 w2 hown2 hgrow2 hnil2; have HOW := Lib.hid (host_own 45 HXS.out hown2); have hb2 := ((HG1.out).alloc HG1.out.size _).grown hgrow2 (by simp; omega) (fun j hj => (H1.out.lt j hj).1); have HB2 := Lib.hid hb2; clear hown2 hgrow2 hnil2 hb2))
          go_roundg k
          case measure => omega
          case rel =>
            refine ⟨k, xs ++ (s.data.toList.take e).drop (k + 1) ++ [47, 45, 47], rfl, rfl, Nat.le_refl _, by omega, ?_, ?_, HOW.out, HB2.out⟩
            · simp only [List.length_append, List.length_cons, List.length_nil, List.length_drop, List.length_take, size_list]; omega
            · show _ = _
              rw [← HQ2.out, ← HC.out, h45, drop_take_nil]
              simp [pf]
        · have hrel2 : Hid (xs ++ pf d (s.data.toList.take k).reverse ((s.data.toList.take e).drop k) = pf d s.data.toList.reverse []) := by
            show _ = _
            rw [← HQ2.out, HS2.out, ← HC.out]
            simp [pf, h46, h45]
          by_cases h5 : s[k]'hks = 45
          · have hd : d = false := by
              cases d with
              | false => rfl
              | true => exact absurd ⟨h5, rfl⟩ h45
            subst hd
            have hb45 : (((s[k]'hks).toNat : Int) == 45) = true := by rw [h5]; rfl
            go_wp2_with fail
            go_roundg k
            case measure => omega
            case rel => exact ⟨e, xs, rfl, rfl, by omega, he, by omega, hrel2, HO, HB⟩
          · have hb45 : (((s[k]'hks).toNat : Int) == 45) = false := ne_byte (b := 45) h5
            go_wp2_with fail
            go_roundg k
            case measure => omega
            case rel => exact ⟨e, xs, rfl, rfl, by omega, he, by omega, hrel2, HO, HB⟩
end Go.Proofs.YtpdnjgbcnnjdiaaDoor
