/- The law FnMatchBack answers true. -/
import Derived.Test.YtpdnjgbcnnjdiaaDoorFills
import Derived.Test.YtpdnjgbcnnjdiaaDoorZz3
import Derived.Test.YtpdnjgbcnnjdiaaDoorVarsLaw
import Derived.Test.YtpdnjgbcnnjdiaaDoorSlT
namespace Go.Proofs.YtpdnjgbcnnjdiaaDoor
open Go Go.RowKit Go.Proofs.YtpdnjgbcnnjdiaaDoorW.PrintWords Go.Proofs.YtpdnjgbcnnjdiaaDoor.PFnMatchBack
set_option linter.unusedVariables false
set_option linter.unusedSimpArgs false

theorem infoPc : (Tryd.prog.info? 33).map (fun i => (i.zero, i.size, i.bytes)) = some (some (.agg #[.bool false, .string ⟨#[]⟩]), 2, 24) := by kernel_rfl

theorem wrap_small (n : Nat) (h : n < 1000000) : wrap64 ((n : Int) + 1) = ((n + 1 : Nat) : Int) := by unfold wrap64; omega
theorem R_of_str {w : World} {B : Nat} {v : Value} {l : List ByteArray} (h : w.ownsRow B 9 1 v l.length (l.map Value.string)) : Kd.R Kd.string 9 w B (fun _ => True) v l := Kd.R_of_own h (fun _ _ => trivial)
theorem max6 {n : Nat} (h : n ≤ 6) : n + 1 ≤ maxLen := by unfold maxLen; omega
theorem max6b {n : Nat} (h : n ≤ 6) : (n + 1) * 24 ≤ 140737488355328 := by omega
theorem max6c {n : Nat} (h : n ≤ 6) : (n + 1) * 16 ≤ 140737488355328 := by omega
theorem size_alloc {B : Nat} {w : World} (h : B ≤ w.heap.size) (o : Obj) : B ≤ (w.alloc o).heap.size := by simp; omega
theorem two_one (a : Bool) (b : ByteArray) : ∀ u ∈ [Value.bool a, .string b], u.oneCell' = true := by
  intro u hu
  simp only [List.mem_cons, List.not_mem_nil, or_false] at hu
  rcases hu with rfl | rfl <;> rfl
theorem two_new (w : World) (a b : Value) (t : TypeId) : ∀ j u, [a, b][j]? = some u → (w.alloc (.cells #[a, b] t)).cell? ((⟨w.heap.size, 0, none⟩ : Addr).add j) = some u := by
  intro j u hj
  match j, hj with
  | 0, hj => simp at hj; subst hj; simp [Addr.add]
  | 1, hj => simp at hj; subst hj; simp [Addr.add]
  | j + 2, hj => simp at hj
theorem two_new2 {W : World} {g : Nat} (a b : Value) (t : TypeId) (hg : g = W.heap.size) : ∀ j u, [a, b][j]? = some u → (W.alloc (.cells #[a, b] t)).cell? ((⟨g, 0, none⟩ : Addr).add j) = some u := by
  subst hg
  exact two_new W a b t
theorem small3 {j m i n : Nat} (hj : j + (m + 1) = i) (hil : i < n) (h6 : n ≤ 6) : j < 1000000 := by omega
theorem step3 {j m i : Nat} (hj : j + (m + 1) = i) : j + 1 + m = i := by omega
theorem own_off {w : World} {B e size n : Nat} {v : Value} {xs : List Value} (h : w.ownsRow B e size v n xs) : v.ownBlock ≠ some w.heap.size := fun e => Nat.lt_irrefl _ (h.lt _ e).2
theorem blk2 {w : World} {g : Nat} {a b : Value} {T : TypeId} (h : w.heap[g]? = some (.cells #[a, b] T (0, 0))) :
    w.cell? ⟨g, 0, none⟩ = some a ∧ w.cell? ⟨g, 1, none⟩ = some b ∧ w.frozen? ⟨g, 0, none⟩ = false ∧ w.frozen? ⟨g, 1, none⟩ = false := by
  simp [World.cell?, World.frozen?, h]
theorem blk_below {w w1 : World} {g : Nat} {o : Obj} (h : w.heap[g]? = some o) (hb : Below w.heap.size w w1) : w1.heap[g]? = some o := by
  rw [hb.block g (Array.getElem?_eq_some_iff.1 h).1]; exact h
theorem blk_grown {w w1 : World} {g : Nat} {o o' : Obj} {r : Option Nat} (h : w.heap[g]? = some o) (hg : (w.alloc o').grownBy w1 r) (hne : r ≠ some g) : w1.heap[g]? = some o := by
  have hlt := (Array.getElem?_eq_some_iff.1 h).1
  rw [hg.block g (by simp; omega) (fun e => hne e.symm)]
  exact (heap_alloc_old w o' hlt).trans h
theorem own_ne {w : World} {B B' e e' size size' n n' : Nat} {v v' : Value} {xs xs' : List Value} (h : w.ownsRow B e size v n xs) (h' : w.ownsRow B' e' size' v' n' xs') (hne : e ≠ e') : v.ownBlock = none ∨ v.ownBlock ≠ v'.ownBlock := by
  rcases h.2 with ⟨rfl, _⟩ | ⟨g, cap, cur, rfl, _, hgg, _⟩
  · exact .inl rfl
  · rcases h'.2 with ⟨rfl, _⟩ | ⟨g', cap', cur', rfl, _, hgg', _⟩
    · exact .inr (by simp [Value.ownBlock])
    · refine .inr fun he => ?_
      simp only [Value.ownBlock, Option.some.injEq] at he
      subst he
      rw [hgg] at hgg'
      simp only [Option.some.injEq, Obj.cells.injEq] at hgg'
      exact hne hgg'.2.1
theorem own_last {w : World} {B T g cap : Nat} {xs : List ByteArray} {f : ByteArray} (h : w.ownsRow B T 1 (.slice (some ⟨g, 0, none⟩) (xs.length + 1) cap) (xs.length + 1) (xs.map Value.string ++ [.string f])) : w.cell? ⟨g, xs.length, none⟩ = some (.string f) := by
  have hc := h.cells (g := g) rfl xs.length (.string f) (by simp)
  rw [show (⟨g, 0, none⟩ : Addr).add xs.length = ⟨g, xs.length, none⟩ from by unfold Addr.add; split <;> simp_all] at hc
  exact hc
theorem own_ne_blk {w : World} {B e size n g : Nat} {v : Value} {xs : List Value} {c : Array Value} {T : TypeId} (h : w.ownsRow B e size v n xs) (hg : w.heap[g]? = some (.cells c T (0, 0))) (hne : e ≠ T) : v.ownBlock ≠ some g := by
  rcases h.2 with ⟨rfl, _⟩ | ⟨b, cap, cur, rfl, _, hgg, _⟩
  · simp [Value.ownBlock]
  · intro he
    simp only [Value.ownBlock, Option.some.injEq] at he
    subst he
    rw [hg] at hgg
    simp only [Option.some.injEq, Obj.cells.injEq] at hgg
    exact hne hgg.2.1.symm
theorem want_snoc {want F : List ByteArray} (h : want = F.take want.length) (hn : want.length < F.length) : want ++ [F[want.length]] = F.take (want ++ [F[want.length]]).length := by
  rw [List.length_append, List.length_singleton, List.take_add_one, List.getElem?_eq_getElem hn, ← h]
  rfl
theorem matchOne {l full : List S33} {want : List ByteArray} (hF : Fills l full want) (h6 : l.length ≤ 6) (W : World) (b : Nat) (hcell : W.cell? ⟨b, 0, none⟩ = some (.string (mkS (patB l))))
    (hTab : Hid (∀ V, Below W.heap.size W V → Lib.TabIs Tryd.prog V "strings.asciiSpace" .u8 Lib.asciiSpaceTab)) :
    Calls Tryd.prog 12 #[.slice (some ⟨b, 0, none⟩) 1 1, .string (mkS (patB full))] W fun e w' => (∃ v, e = .returned (.tuple #[.string (mkS (patB l)), v, .bool true, .int .i64 0]) ∧ w'.ownsRow W.heap.size 9 1 v want.length (want.map Value.string)) ∧ Below W.heap.size W w' := by
  obtain ⟨f1, f2, f3, f4, f5⟩ := hF.facts
  have hl1 := patB_lenB 12 l (fun x hx => (f3 x hx).2.1)
  have hl2 := patB_lenB 12 full (fun x hx => (f4 x hx).2.1)
  have hG : Good [(tokP l, patB l)] := by
    intro e he
    rw [List.mem_singleton.1 he]
    exact ⟨namP l, toks_strip l f3⟩
  have hlen : ∀ e ∈ ([(tokP l, patB l)] : PL), e.2.length ≤ 100 := by
    intro e he
    rw [List.mem_singleton.1 he]
    show (patB l).length ≤ 100
    omega
  have hm := implMatch (some ⟨b, 0, none⟩) 1 [(tokP l, patB l)] W (mkS (patB full)) (by rw [mkS_size]; omega) (by simp) hG hlen (fun k hk => by
    have hk0 : k = 0 := by simpa using hk
    subst hk0
    refine ⟨_, rfl, ?_⟩
    rw [show (⟨b, 0, none⟩ : Addr).add 0 = ⟨b, 0, none⟩ from by simp [Addr.add]]
    exact hcell) hTab
  rw [mkS_toList] at hm
  refine hm.mono fun e w' h => ?_
  obtain ⟨hb, h⟩ := ans_of hG hlen h
  refine ⟨?_, hb⟩
  have hmt := mt_full hF
  rcases h with ⟨_, h⟩ | ⟨v, ts, key, ys, hmem, hy, _, he, ho⟩
  · have := h (tokP l, patB l) (by simp)
    rw [hmt] at this
    cases this
  · have he2 := List.mem_singleton.1 hmem
    injection he2 with e1 e2
    subst e1 e2
    rw [hmt] at hy
    injection hy with hy
    subst hy
    refine ⟨v, he, ?_⟩
    have e3 : strs (want.map (·.data.toList)) = want.map Value.string := by
      unfold strs
      rw [List.map_map]
      apply List.map_congr_left
      intro a _
      show Value.string (mkS a.data.toList) = Value.string a
      rw [mkS_self]
    rw [e3, List.length_map] at ho
    exact ho
theorem back1 {i k n : Nat} (h : i + (k + 1) = n) : i + 1 + k = n := by omega
theorem pcells_snoc (l : List S33) (x : S33) : pcells (l ++ [x]) = pcells l ++ [.bool x.f0, .string x.f1] := by simp [pcells]
/-- What holds at the head of the outer loop: i pieces are done. -/
def BInv (l : List S33) (F : List ByteArray) (w : World) (g : Nat) (v5 v6 v33 : Value) (wr : World) : Prop :=
  ∃ (i : Nat) (full : List S33) (want : List ByteArray), i + g = l.length ∧ v33 = .int .i64 i ∧ Hid (Fills (l.take i) full want) ∧ Hid (want = F.take want.length) ∧ want.length ≤ F.length ∧ want.length ≤ i ∧
    Hid (wr.ownsRow w.heap.size 33 2 v5 full.length (pcells full)) ∧ Hid (wr.ownsRow w.heap.size 9 1 v6 want.length (want.map Value.string)) ∧ Hid (Below w.heap.size w wr)

set_option maxHeartbeats 4000000 in
set_option maxRecDepth 10000 in
theorem backLaw (A : Option Addr) (c : Nat) (l : List S33) (A1 : Option Addr) (c1 : Nat) (F : List ByteArray) (w : World) (hr : Kd.C k33 w A l.length l) (hc : l.length ≤ c) (hr1 : Kd.C Kd.string w A1 F.length F) (hc1 : F.length ≤ c1) (hTab : Hid (∀ W, Below w.heap.size w W → Lib.TabIs Tryd.prog W "strings.asciiSpace" .u8 Lib.asciiSpaceTab)) :
    Calls Tryd.prog 4 #[.slice A l.length c, .slice A1 F.length c1] w fun e w' => e = .returned (.bool true) ∧ Below w.heap.size w w' := by
  have hu33 := Tryd.underlying33
  obtain ⟨i0, hi, hz0, hz1, hz2⟩ := info_parts infoStr
  obtain ⟨i3, hi3, hy0, hy1, hy2⟩ := info_parts infoPc
  obtain ⟨kz, rz, hz, hzt⟩ := zz4_f l
  obtain ⟨ky, ry, hy, hyt⟩ := zz3_f F
  have HZ := Lib.hid (laws_zzFits4.calls kz A c l rz w hr hc hz)
  have HY := Lib.hid (fun (W : World) (hb : Below w.heap.size w W) => PFnMatch.laws_zzFits3.calls ky A1 c1 F ry W (Kd.C_below hr1 hb) hc1 hy)
  clear hz hy
  have HR := Lib.hid hr
  have HF := Lib.hid hr1
  clear hr hr1
  cases rz with
  | false =>
    clear hzt hyt
    go_enter Tryd.func4, Tryd.ntmps4
    go_wp2_with fail
    refine HZ.out.mono ?_
    rintro e w1 ⟨rfl, hb⟩
    have HB := Lib.hid hb
    clear hb
    go_wp2_with fail
    go_ret
    exact ⟨rfl, HB.out⟩
  | true =>
    obtain ⟨hl31, hx31⟩ := hzt rfl
    have HX := Lib.hid hx31
    clear hzt hx31
    cases ry with
    | false =>
      clear hyt
      go_enter Tryd.func4, Tryd.ntmps4
      go_wp2_with fail
      refine HZ.out.mono ?_
      rintro e w1 ⟨rfl, hb⟩
      have HB := Lib.hid hb
      clear hb
      go_wp2_with fail
      refine (HY.out _ HB.out).mono ?_
      rintro e w2 ⟨rfl, hd⟩
      have HB2 := Lib.hid (HB.out.trans ((Drawn0.below hd).mono HB.out.size))
      clear hd
      go_wp2_with fail
      go_ret
      exact ⟨rfl, HB2.out⟩
    | true =>
      obtain ⟨hF31, hFx⟩ := hyt rfl
      have HFX := Lib.hid hFx
      clear hyt hFx
      by_cases hlen : 1 ≤ l.length ∧ l.length ≤ 6
      · obtain ⟨hl1, hl6⟩ := hlen
        go_enter Tryd.func4, Tryd.ntmps4
        go_wp2_with fail
        refine HZ.out.mono ?_
        rintro e w1 ⟨rfl, hb⟩
        have HB := Lib.hid hb
        clear hb
        go_wp2_with fail
        refine (HY.out _ HB.out).mono ?_
        rintro e w2 ⟨rfl, hd⟩
        have HB2 := Lib.hid (HB.out.trans ((Drawn0.below hd).mono HB.out.size))
        clear hd
        go_wp2_with fail
        go_loopg [5, 6, 33] l.length (fun g v5 v6 v33 wr => BInv l F w g v5 v6 v33 wr)
        case atStart =>
          refine ⟨0, [], [], by simp, rfl, Fills.nil, rfl, by simp, by simp, ?_, ?_, HB2⟩
          · exact World.ownsRow_nil _ _ _ _
          · exact World.ownsRow_nil _ _ _ _
        case round =>
          obtain ⟨i, full, want, hig, rfl, HFL, HWF, hwF, hwi, HO5, HO6, HBR⟩ := hrel
          obtain ⟨A6, c6, rfl, hc6, hC6⟩ := Kd.R_reads (R_of_str HO6.out)
          have HC6 := Lib.hid hC6
          clear hC6
          cases gk with
          | zero =>
            have hil : i = l.length := hig
            subst hil
            rw [List.take_length] at HFL
            have hfc := HFL.out.facts
            have hp100 : ∀ x ∈ l, x.f1.size ≤ 100 := fun x hx => Nat.le_trans (hfc.2.2.1 x hx).2.1 (by decide)
            have hf100 : ∀ x ∈ full, x.f1.size ≤ 100 := fun x hx => Nat.le_trans (hfc.2.2.2.1 x hx).2.1 (by decide)
            have hfl6 : full.length ≤ 6 := by rw [hfc.1]; exact hl6
            have hwl6 : want.length < 10 := Nat.lt_of_le_of_lt (Nat.le_trans hfc.2.1 hl6) (by decide)
            obtain ⟨A5, c5, rfl, hc5, hC5⟩ := C_of_pcells HO5.out
            have HPAT := Lib.hid (fun (W : World) (hb : Below w.heap.size w W) => pattern A c l W (Kd.C_below HR.out hb) hc hl6 hp100)
            have HPF := Lib.hid (fun (W : World) (hb : Below wr.heap.size wr W) => pattern A5 c5 full W (Kd.C_below hC5 hb) hc5 hfl6 hf100)
            have HM := Lib.hid (fun (W : World) (b : Nat) (hW : Below w.heap.size w W) (hcell : W.cell? ⟨b, 0, none⟩ = some (.string (mkS (patB l)))) => matchOne HFL.out hl6 W b hcell (show Hid _ from fun V hV => hTab.out V (hW.trans (hV.mono hW.size))))
            have HRT := Lib.hid (fun (W : World) (hW : Below w.heap.size w W) => routed W (show Hid _ from fun V hV => hTab.out V (hW.trans (hV.mono hW.size))))
            have HWL := Lib.hid hwl6
            clear hp100 hf100 hC5 hfc hwl6 hwF hwi hl6 hl1 hl31 hF31 hfl6 hig
            go_wp2_with fail
            refine (HPAT.out _ HBR.out).mono ?_
            rintro e w2 ⟨rfl, hb2⟩
            have HB2 := Lib.hid (HBR.out.trans (hb2.mono HBR.out.size))
            have HBW := Lib.hid (hb2.mono (Nat.le_refl _))
            have HC7 := Lib.hid (Kd.C_below HC6.out hb2)
            clear hb2
            go_wp2_with fail
            refine (HPF.out _ (HBW.out.alloc HBW.out.size _)).mono ?_
            rintro e w3 ⟨rfl, hb3⟩
            have HC8 := Lib.hid (Kd.C_below (Kd.C_below HC7.out ((Below.refl w2.heap.size w2).alloc (Nat.le_refl _) (.cells #[.string (mkS (patB l))] 9))) hb3)
            have hcell : w3.cell? ⟨w2.heap.size, 0, none⟩ = some (.string (mkS (patB l))) := cell_kept (blkc (heap_alloc_new w2 (.cells #[.string (mkS (patB l))] 9))).1 hb3
            have HCE := Lib.hid hcell
            have HB3 := Lib.hid ((HB2.out.alloc HB2.out.size (.cells #[.string (mkS (patB l))] 9)).trans (hb3.mono (size_alloc HB2.out.size _)))
            clear hb3 hcell
            go_wp2_with fail
            refine (HM.out _ _ HB3.out HCE.out).mono ?_
            rintro e w4 ⟨⟨v, rfl, hown⟩, hb4⟩
            have HB4 := Lib.hid (HB3.out.trans (hb4.mono HB3.out.size))
            obtain ⟨A7, c7, rfl, hc7, hC7⟩ := Kd.R_reads (R_of_str hown)
            have HC9 := Lib.hid (Kd.C_below HC8.out hb4)
            have HCV := Lib.hid hC7
            clear hown hb4 hC7
            go_wp2_with fail
            refine (HPAT.out _ HB4.out).mono ?_
            rintro e w5 ⟨rfl, hb5⟩
            have HB5 := Lib.hid (HB4.out.trans (hb5.mono HB4.out.size))
            have hst := PFnMatch.laws_sameTexts.calls (want.length + 1) A7 c7 want A6 c6 want true w5 (Kd.C_below HCV.out hb5) hc7 (Kd.C_below HC9.out hb5) hc6 (by rw [same_f _ _ (by have := HWL.out; omega) _ (by omega)]; simp)
            have HST := Lib.hid hst
            clear hb5 hst
            go_wp2_with fail
            refine HST.out.mono ?_
            rintro e w6 ⟨rfl, hd6⟩
            have HB6 := Lib.hid (HB5.out.trans ((Drawn0.below hd6).mono HB5.out.size))
            clear hd6
            go_wp2_with fail
            refine (HRT.out _ HB6.out).mono ?_
            rintro e w7 ⟨rfl, hb7⟩
            have HB7 := Lib.hid (HB6.out.trans (hb7.mono HB6.out.size))
            clear hb7
            go_wp2_with fail
            go_ret
            exact ⟨rfl, HB7.out⟩
          | succ k =>
            have hil : i < l.length := by omega
            obtain ⟨ad, rfl, hc0, hc1'⟩ := at_T33 (Kd.C_below HR.out HBR.out) (i : Int) (by omega) (by omega)
            rw [show ((i : Int)).toNat = i from by simp, show rd_T33 l (i : Int) = l[i] from by simp [rd_T33, List.getD, hil]] at hc0 hc1'
            have hsz := HX.out _ (List.getElem_mem hil)
            have hw1 := wrap_small i (by omega)
            have htk : l.take (i + 1) = l.take i ++ [l[i]] := by rw [List.take_add_one, List.getElem?_eq_getElem hil]; rfl
            have HTK := Lib.hid htk
            clear htk
            generalize hpp : l[i] = pp at hc0 hc1' hsz HTK
            clear hpp
            obtain ⟨f0, f1⟩ := pp
            replace hsz : f1.size ≤ 2147483647 := hsz
            obtain ⟨kL, rL, hL, hLt⟩ := lett_f f1 hsz
            have HLL := Lib.hid (fun W => laws_letters.calls kL f1 rL W hL)
            have HLT2 := Lib.hid hLt
            clear hL hLt
            have HB3 := Lib.hid (HBR.out.alloc HBR.out.size (.cells #[.bool f0, .string f1] 33))
            go_wp2_with fail
            refine (HLL.out _).mono ?_
            rintro e w2 ⟨rfl, hd⟩
            have HB4 := Lib.hid (HB3.out.trans ((Drawn0.below hd).mono HB3.out.size))
            have hobB : Below wr.heap.size wr w2 := ((Below.refl wr.heap.size wr).alloc (Nat.le_refl _) (.cells #[.bool f0, .string f1] 33)).trans ((Drawn0.below hd).mono (by simp))
            have HQ5 := Lib.hid (own_below HO5.out hobB)
            have HQ6 := Lib.hid (own_below HO6.out hobB)
            obtain ⟨q0, q1⟩ := copy_of (Drawn0.below hd)
            have HK2 := Lib.hid (blk_below (heap_alloc_new wr (.cells #[.bool f0, .string f1] 33)) (Drawn0.below hd))
            have HNE5 := Lib.hid (own_off HO5.out)
            have HNE6 := Lib.hid (own_off HO6.out)
            have HGB := Lib.hid HBR.out.size
            clear hd hobB
            cases rL with
            | false =>
              go_wp2_with fail
              go_ret
              exact ⟨rfl, HB4.out⟩
            | true =>
              have HLF := Lib.hid (HLT2.out rfl)
              have hst := slice_take (some ad) l.length c i (Nat.le_trans (Nat.le_of_lt hil) hc)
              have HAR := Lib.hid (And.intro hig (And.intro hil (And.intro hl6 (And.intro hwF (And.intro hwi (And.intro hc6 (And.intro hc (And.intro hc1 hF31))))))))
              clear hig hil hl6 hwF hwi hc6 hc hc1 hF31 hl31 hl1 hsz
              go_wp2_with fail
              go_loopg [46] i (fun g v46 wi => ∃ j : Nat, j + g = i ∧ v46 = .int .i64 j ∧ Hid (Below w2.heap.size w2 wi))
              case atStart => exact ⟨0, Nat.zero_add _, rfl, Below.refl _ _⟩
              case round =>
                obtain ⟨j, hj, rfl, HBJ⟩ := hrel
                have r0 := cell_kept q0 HBJ.out
                have r1 := cell_kept q1 HBJ.out
                have HB5 := Lib.hid (HB4.out.trans (HBJ.out.mono HB4.out.size))
                clear q0 q1
                cases gk with
                | zero =>
                  have hji : j = i := hj
                  subst hji
                  have HP5 := Lib.hid (own_below HQ5.out HBJ.out)
                  have HP6 := Lib.hid (own_below HQ6.out HBJ.out)
                  cases f0 with
                  | false =>
                    have hfl := HFL.out.facts
                    have hflen : full.length ≤ 6 := by rw [hfl.1, List.length_take]; exact Nat.le_trans (Nat.min_le_left _ _) (Nat.le_of_lt (Nat.lt_of_lt_of_le HAR.out.2.1 HAR.out.2.2.1))
                    have hb5 := HB5.out.size
                    clear hfl
                    go_wp2_with (at_builtin; refine wpList_append_own _ rfl _ _ 30 rfl w.heap.size 33 i3 (.agg #[.bool false, .string ⟨#[]⟩]) 2 24 Tryd.underlying30 hi3 hy0 hy1 hy2 rfl (by decide) _ full.length (pcells full) rfl (HP5.out.alloc _) ⟨_, 0, none⟩ 1 1 [.bool false, .string f1] rfl rfl (two_new _ _ _ _) (two_one _ _) (max6 hflen) (max6b hflen) (size_alloc hb5 _) ?_; intro v4 w4 hown4 hg4 hn4; have HO7 := Lib.hid hown4; have HG7 := Lib.hid hg4; clear hown4 hg4 hn4)
                    go_roundg k
                    case rel =>
                      refine ⟨j + 1, full ++ [⟨false, f1⟩], want, back1 HAR.out.1, by rw [hw1], ?_, HWF, HAR.out.2.2.2.1, Nat.le_succ_of_le HAR.out.2.2.2.2.1, ?_, ?_, ?_⟩
                      · show Fills _ _ _
                        rw [HTK.out]
                        exact Fills.const ⟨false, f1⟩ rfl HLF.out HFL.out
                      · show World.ownsRow _ _ _ _ _ _ _
                        have h7 := HO7.out
                        rw [pcells_snoc, List.length_append]
                        exact h7
                      · exact (HP6.out.alloc _).kept HG7.out (own_ne HP6.out HP5.out (by decide))
                      · exact (HB5.out.alloc HB5.out.size _).grown HG7.out (size_alloc hb5 _) (fun q hq => (HP5.out.lt q hq).1)
                    case measure => exact Nat.lt_succ_self _
                  | true =>
                    have hb5 := HB5.out.size
                    by_cases hn : want.length < F.length
                    · obtain ⟨adF, heF, hdF⟩ := Kd.at_string (Kd.C_below HF.out HB5.out) (want.length : Int) (Int.natCast_nonneg _) (Int.ofNat_lt.2 hn)
                      cases heF
                      rw [show ((want.length : Int)).toNat = want.length from by simp, show rdOf ByteArray.empty F (want.length : Int) = F[want.length] from by simp [rdOf, List.getD, hn]] at hdF
                      obtain ⟨kM, rM, hM, hMt⟩ := lett_f F[want.length] (HFX.out _ (List.getElem_mem hn))
                      have HMM := Lib.hid (fun W => laws_letters.calls kM F[want.length] rM W hM)
                      have HMT := Lib.hid hMt
                      have hnI : (want.length : Int) < (F.length : Int) := Int.ofNat_lt.2 hn
                      clear hM hMt
                      go_wp2_with fail
                      refine (HMM.out _).mono ?_
                      rintro e w5 ⟨rfl, hd5⟩
                      have hbb := Drawn0.below hd5
                      have HB6 := Lib.hid (HB5.out.trans (hbb.mono hb5))
                      have HR5 := Lib.hid (own_below HP5.out hbb)
                      have HR6 := Lib.hid (own_below HP6.out hbb)
                      have s0 := cell_kept r0 hbb
                      have s1 := cell_kept r1 hbb
                      have hdG := pw_cell_below hbb hdF
                      have HK5 := Lib.hid (blk_below (blk_below HK2.out HBJ.out) hbb)
                      clear hd5 hbb r0 r1 hdF
                      cases rM with
                      | false =>
                        go_wp2_with fail
                        go_ret
                        exact ⟨rfl, HB6.out⟩
                      | true =>
                        have HML := Lib.hid (HMT.out rfl)
                        have hb6 := HB6.out.size
                        have hn6 : want.length ≤ 6 := Nat.le_trans HAR.out.2.2.2.2.1 (Nat.le_of_lt (Nat.lt_of_lt_of_le HAR.out.2.1 HAR.out.2.2.1))
                        have hfl := HFL.out.facts
                        have hflen : full.length ≤ 6 := by rw [hfl.1, List.length_take]; exact Nat.le_trans (Nat.min_le_left _ _) (Nat.le_of_lt (Nat.lt_of_lt_of_le HAR.out.2.1 HAR.out.2.2.1))
                        clear hfl
                        go_wp2_with (first
                          | (at_builtin; (refine wpList_append_own _ rfl _ _ 22 rfl w.heap.size 9 i0 (.string ⟨#[]⟩) 1 16 Tryd.underlying22 hi hz0 hz1 hz2 rfl (by decide) _ want.length (want.map Value.string) rfl (HR6.out.alloc _) ⟨_, 0, none⟩ 1 1 [.string F[want.length]] rfl rfl (cell_one_new _ _ _) (by intro u hu; simp at hu; subst hu; rfl) (max6 hn6) (max6c hn6) (size_alloc hb6 _) ?_); intro v6 w6 hown6 hg6 hn6'; (obtain ⟨g6, cap6, rfl⟩ := own_form hown6; have hcl : w6.cell? ⟨g6, want.length, none⟩ = some (.string F[want.length]) := own_last hown6; have hk6 := blk_grown HK5.out hg6 HNE6.out; obtain ⟨e0, e1, ef0, ef1⟩ := blk2 hk6; have HS5 := Lib.hid ((HR5.out.alloc _).kept hg6 (own_ne HR5.out HR6.out (by decide))); have HO7 := Lib.hid (ownsRow_setCell_other (ownsRow_setCell_other HS5.out (a := ⟨_, 0, none⟩) HNE5.out (.bool false)) (a := ⟨_, 1, none⟩) HNE5.out (.string F[want.length])); have HO6' := Lib.hid hown6; have HB7 := Lib.hid ((HB6.out.alloc hb6 _).grown hg6 (size_alloc hb6 _) (fun q hq => (HR6.out.lt q hq).1)); have HB8 := Lib.hid ((HB7.out.setCell (p := ⟨_, 0, none⟩) HGB.out (.bool false)).setCell (p := ⟨_, 1, none⟩) HGB.out (.string F[want.length])); have hb8 := HB8.out.size; clear hown6 hg6 hn6' s0 s1))
                          | (at_builtin; (refine wpList_append_own _ rfl _ _ 30 rfl w.heap.size 33 i3 (.agg #[.bool false, .string ⟨#[]⟩]) 2 24 Tryd.underlying30 hi3 hy0 hy1 hy2 rfl (by decide) _ full.length (pcells full) rfl (HO7.out.alloc _) ⟨_, 0, none⟩ 1 1 [.bool false, .string F[want.length]] rfl rfl (two_new2 _ _ _ (by simp)) (two_one _ _) (max6 hflen) (max6b hflen) (size_alloc hb8 _) ?_); intro v9 w9 hown9 hg9 hn9; have HO9 := Lib.hid hown9; have HG9 := Lib.hid hg9; clear hown9 hg9 hn9))
                        go_roundg k
                        case rel =>
                          have hne6 := own_ne_blk HO6'.out hk6 (by decide)
                          refine ⟨j + 1, full ++ [⟨false, F[want.length]⟩], want ++ [F[want.length]], back1 HAR.out.1, by rw [hw1], ?_, want_snoc HWF.out hn, ?_, ?_, ?_, ?_, ?_⟩
                          · show Fills _ _ _
                            rw [HTK.out]
                            exact Fills.var ⟨true, f1⟩ F[want.length] rfl HLF.out HML.out HFL.out
                          · rw [List.length_append, List.length_singleton]; exact hn
                          · rw [List.length_append, List.length_singleton]; exact Nat.succ_le_succ HAR.out.2.2.2.2.1
                          · show World.ownsRow _ _ _ _ _ _ _
                            have h9 := HO9.out
                            rw [pcells_snoc, List.length_append]
                            exact h9
                          · show World.ownsRow _ _ _ _ _ _ _
                            have h6 := ((ownsRow_setCell_other (ownsRow_setCell_other HO6'.out (a := ⟨_, 0, none⟩) hne6 (.bool false)) (a := ⟨_, 1, none⟩) hne6 (.string F[want.length])).alloc (.cells #[.bool false, .string F[want.length]] 33)).kept HG9.out (own_ne (ownsRow_setCell_other (ownsRow_setCell_other HO6'.out (a := ⟨_, 0, none⟩) hne6 (.bool false)) (a := ⟨_, 1, none⟩) hne6 (.string F[want.length])) HO7.out (by decide))
                            rw [List.length_append, List.map_append]
                            exact h6
                          · exact (HB8.out.alloc hb8 _).grown HG9.out (size_alloc hb8 _) (fun q hq => (HO7.out.lt q hq).1)
                        case measure => exact Nat.lt_succ_self _
                    · have hnI : (F.length : Int) ≤ (want.length : Int) := Int.ofNat_le.2 (Nat.le_of_not_lt hn)
                      go_wp2_with fail
                      go_ret
                      exact ⟨rfl, HB5.out⟩
                | succ m =>
                  have hjl : j < l.length := Nat.lt_trans (Nat.lt_of_lt_of_le (Nat.lt_add_of_pos_right (Nat.succ_pos m)) (Nat.le_of_eq hj)) HAR.out.2.1
                  obtain ⟨ad2, he2, hd0, hd1⟩ := at_T33 (Kd.C_below HR.out HB5.out) (j : Int) (Int.natCast_nonneg _) (Int.ofNat_lt.2 hjl)
                  cases he2
                  rw [show ((j : Int)).toNat = j from by simp, show rd_T33 l (j : Int) = l[j] from by simp [rd_T33, List.getD, hjl]] at hd0 hd1
                  have hw2 : wrap64 ((j : Int) + 1) = ((j + 1 : Nat) : Int) := wrap_small j (small3 hj HAR.out.2.1 HAR.out.2.2.1)
                  have hji : (j : Int) < (i : Int) := Int.ofNat_lt.2 (Nat.lt_of_lt_of_le (Nat.lt_add_of_pos_right (Nat.succ_pos m)) (Nat.le_of_eq hj))
                  generalize hqq : l[j] = qq at hd0 hd1
                  clear hqq
                  obtain ⟨h0, h1⟩ := qq
                  have r2 := cell_kept r0 ((Below.refl _ _).alloc (Nat.le_refl _) (.cells #[.bool h0, .string h1] 33))
                  have r3 := cell_kept r1 ((Below.refl _ _).alloc (Nat.le_refl _) (.cells #[.bool h0, .string h1] 33))
                  have HB6 := Lib.hid (HB5.out.alloc HB5.out.size (.cells #[.bool h0, .string h1] 33))
                  have HBJ2 := Lib.hid (HBJ.out.alloc HBJ.out.size (.cells #[.bool h0, .string h1] 33))
                  by_cases hall : h0 = true ∧ f0 = true ∧ h1.toList = f1.toList
                  · obtain ⟨rfl, rfl, heq⟩ := hall
                    have heqb : (h1.toList == f1.toList) = true := by simpa using heq
                    go_wp2_with fail
                    go_ret
                    exact ⟨rfl, HB6.out⟩
                  · have heqb : (h0 && f0 && (h1.toList == f1.toList)) = false := by
                      cases h0 <;> cases f0 <;> simp at hall ⊢
                      exact hall
                    cases h0 with
                    | false =>
                      go_wp2_with fail
                      go_roundg m
                      case rel => exact ⟨j + 1, step3 hj, rfl, HBJ2⟩
                      case measure => exact Nat.lt_succ_self _
                    | true =>
                      cases f0 with
                      | false =>
                        go_wp2_with fail
                        go_roundg m
                        case rel => exact ⟨j + 1, step3 hj, rfl, HBJ2⟩
                        case measure => exact Nat.lt_succ_self _
                      | true =>
                        have heq2 : (h1.toList == f1.toList) = false := by simpa using heqb
                        go_wp2_with fail
                        go_roundg m
                        case rel => exact ⟨j + 1, step3 hj, rfl, HBJ2⟩
                        case measure => exact Nat.lt_succ_self _
      · have HLEN := Lib.hid hlen
        clear hlen
        by_cases h1 : l.length < 1
        · go_enter Tryd.func4, Tryd.ntmps4
          go_wp2_with fail
          refine HZ.out.mono ?_
          rintro e w1 ⟨rfl, hb⟩
          have HB := Lib.hid hb
          clear hb
          go_wp2_with fail
          refine (HY.out _ HB.out).mono ?_
          rintro e w2 ⟨rfl, hd⟩
          have HB2 := Lib.hid (HB.out.trans ((Drawn0.below hd).mono HB.out.size))
          clear hd
          go_wp2_with fail
          go_ret
          exact ⟨rfl, HB2.out⟩
        · have h2 : 6 < l.length := by
            have := HLEN.out
            omega
          go_enter Tryd.func4, Tryd.ntmps4
          go_wp2_with fail
          refine HZ.out.mono ?_
          rintro e w1 ⟨rfl, hb⟩
          have HB := Lib.hid hb
          clear hb
          go_wp2_with fail
          refine (HY.out _ HB.out).mono ?_
          rintro e w2 ⟨rfl, hd⟩
          have HB2 := Lib.hid (HB.out.trans ((Drawn0.below hd).mono HB.out.size))
          clear hd
          go_wp2_with fail
          go_ret
          exact ⟨rfl, HB2.out⟩
end Go.Proofs.YtpdnjgbcnnjdiaaDoor
