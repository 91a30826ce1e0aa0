/- The law FnMatch answers true. -/
import Derived.Test.YtpdnjgbcnnjdiaaDoorPureM
import Derived.Test.YtpdnjgbcnnjdiaaDoorZz3
namespace Go.Proofs.YtpdnjgbcnnjdiaaDoor
open Go Go.RowKit Go.Proofs.YtpdnjgbcnnjdiaaDoorW.PrintWords Go.Proofs.YtpdnjgbcnnjdiaaDoor.PFnMatch
set_option linter.unusedVariables false
set_option linter.unusedSimpArgs false

theorem paths_l (l : List ByteArray) (hl : l.length ≤ 2147483647) (hx : ∀ x ∈ l, x.size ≤ 2147483647) : ∀ (n k i : Nat), l.length - i < n → n + 2147483648 ≤ k → i ≤ l.length → ∃ b, laws_paths.l0 k l l (l.length : Int) (i : Int) = some b ∧ (b = true → l.length ≤ 12 ∧ ∀ x ∈ l.drop i, Plain x) := by
  intro n
  induction n with
  | zero => intro k i h; omega
  | succ n ih =>
    intro k i hn hk hi
    obtain ⟨k, rfl⟩ : ∃ m, k = m + 1 := ⟨k - 1, by omega⟩
    rw [laws_paths.l0]
    by_cases h : i < l.length
    · have hrd : rdOf ByteArray.empty l (i : Int) = l[i] := by simp [rdOf, List.getD, h]
      have hs := hx _ (List.getElem_mem h)
      rw [if_pos (by omega), if_pos (by omega), if_pos (by omega), hrd, plain_f _ hs k (by omega), Option.bind_some, show wrap64 ((i : Int) + 1) = ((i + 1 : Nat) : Int) from by unfold wrap64; omega]
      by_cases hp : Plain l[i]
      · rw [if_pos (by simpa using hp)]
        obtain ⟨b, e1, e2⟩ := ih k (i + 1) (by omega) (by omega) (by omega)
        refine ⟨b, e1, fun hb => ⟨(e2 hb).1, fun x hm => ?_⟩⟩
        rw [List.drop_eq_getElem_cons h] at hm
        rcases List.mem_cons.1 hm with rfl | hm
        · exact hp
        · exact (e2 hb).2 x hm
      · rw [if_neg (by simpa using hp)]
        exact ⟨false, rfl, fun e => by cases e⟩
    · rw [if_neg (by omega), List.drop_of_length_le (by omega)]
      exact ⟨_, rfl, fun hb => ⟨by have := of_decide_eq_true hb; omega, fun x hm => by cases hm⟩⟩
theorem paths_f (l : List ByteArray) (hl : l.length ≤ 2147483647) (hx : ∀ x ∈ l, x.size ≤ 2147483647) : ∃ k b, laws_paths.f k l = some b ∧ (b = true → l.length ≤ 12 ∧ ∀ x ∈ l, Plain x) := by
  obtain ⟨b, e1, e2⟩ := paths_l l hl hx (l.length + 1) (l.length + 2147483649) 0 (by omega) (by omega) (by omega)
  exact ⟨_, b, e1, by simpa using e2⟩

theorem R_of_strM {w : World} {B : Nat} {v : Value} {l : List ByteArray} (h : w.ownsRow B 9 1 v l.length (l.map Value.string)) : Kd.R Kd.string 9 w B (fun _ => True) v l := Kd.R_of_own h (fun _ _ => trivial)
theorem plain_ascii {s : ByteArray} (h : Plain s) : ∀ b ∈ bys s, b.toNat < 128 := fun b hb => by have := h.2 b hb; omega

theorem implAt (A : Option Addr) (c : Nat) (l : List ByteArray) (path : ByteArray) (W : World) (hC : Kd.C Kd.string W A l.length l) (hpl : ∀ x ∈ l, Plain x) (hl : l.length ≤ 12) (hpp : Plain path) (r : MR) (hF : Final l (bys path) r)
    (hTab : Hid (∀ V, Below W.heap.size W V → Lib.TabIs Tryd.prog V "strings.asciiSpace" .u8 Lib.asciiSpaceTab)) :
    Calls Tryd.prog 12 #[.slice A l.length c, .string path] W fun e w' => (∃ v k ys, e = .returned (.tuple #[.string k, v, .bool r.2.2.1, .int .i64 0]) ∧ w'.ownsRow W.heap.size 9 1 v ys.length (ys.map Value.string) ∧ (r.2.2.1 = true → k = r.1 ∧ ys = r.2.1) ∧ ys.length ≤ 1000) ∧ Below W.heap.size W w' := by
  obtain ⟨D, hD, hok, hpw, hpath, hfin, rfl⟩ := hF
  have hDl : D.length = l.length := by have := congrArg List.length hD; simpa using this
  have hG : Good (D.map fun d => (tk d, d.1)) := by
    intro e he
    obtain ⟨d, hd, rfl⟩ := List.mem_map.1 he
    show ∃ ns, Toks (stripAll d.1) (tk d) ns
    rw [(hok d hd).2]
    have hm : d.1 ∈ l.map bys := by rw [← hD]; exact List.mem_map.2 ⟨d, hd, rfl⟩
    obtain ⟨s, hs, he⟩ := List.mem_map.1 hm
    exact toks_parts (hok d hd).1.1 (by rw [← he]; exact plain_ascii (hpl s hs))
  have hlen : ∀ e ∈ D.map fun d => (tk d, d.1), e.2.length ≤ 100 := by
    intro e he
    obtain ⟨d, hd, rfl⟩ := List.mem_map.1 he
    have hm : d.1 ∈ l.map bys := by rw [← hD]; exact List.mem_map.2 ⟨d, hd, rfl⟩
    obtain ⟨s, hs, he⟩ := List.mem_map.1 hm
    show d.1.length ≤ 100
    rw [← he, size_list]
    have := (hpl s hs).1
    omega
  have hm := implMatch A c (D.map fun d => (tk d, d.1)) W path (by have := hpp.1; omega) (by rw [List.length_map]; omega) hG hlen (fun k hk => by
    have hkd : k < D.length := by simpa using hk
    have hkl : k < l.length := by omega
    obtain ⟨ad, rfl, hcell⟩ := Kd.at_string hC (k : Int) (by omega) (by omega)
    refine ⟨ad, rfl, ?_⟩
    rw [show ((k : Nat) : Int).toNat = k from by simp, show rdOf ByteArray.empty l (k : Int) = l[k] from by simp [rdOf, List.getD, hkl]] at hcell
    rw [hcell]
    have h1 : (D.map (·.1))[k]'(by simpa using hkd) = (l.map bys)[k]'(by simpa using hkl) := List.getElem_of_eq hD _
    rw [List.getElem_map, List.getElem_map] at h1
    rw [List.getElem_map]
    show some (Value.string l[k]) = some (Value.string (mkS D[k].1))
    rw [h1, show mkS (bys l[k]) = l[k] from mkS_self _]) hTab
  rw [List.length_map, hDl] at hm
  refine hm.mono fun e w' h => ?_
  obtain ⟨hb, h⟩ := ans_of hG hlen h
  refine ⟨?_, hb⟩
  have hok2 : ∀ d ∈ D, DonOk (bys path) d := fun d hd => (hok d hd).1
  rcases h with ⟨he, hno⟩ | ⟨v, ts, key, ys, hmem, hy, hbest, he, ho⟩
  · have h0 : (foldM D).hits = 0 := by
      apply Classical.byContradiction
      intro hne
      obtain ⟨d, hd, d1, _⟩ := (fold_inv D hok2 hpw).best hne
      have := hno (tk d, d.1) (List.mem_map.2 ⟨d, hd, rfl⟩)
      have hmt := mt_top (hok2 d hd).1 (partsOf_ne (bys path)) (partsOf_no (bys path)) (hok2 d hd).2
      rw [join_parts, ← hpath, d1] at hmt
      rw [show tk d = toksQ (partsOf d.1) from rfl] at this
      rw [hmt] at this
      cases this
    have hdec : decide ((foldM D).hits > 0) = false := by rw [h0]; rfl
    refine ⟨.slice none 0 0, ⟨#[]⟩, [], ?_, World.ownsRow_nil _ _ _ _, ?_, Nat.zero_le _⟩
    · rw [he]
      show _ = Ending.returned (.tuple #[.string ⟨#[]⟩, .slice none 0 0, .bool (decide ((foldM D).hits > 0)), .int .i64 0])
      rw [hdec]
    · intro hd
      change decide ((foldM D).hits > 0) = true at hd
      rw [hdec] at hd
      cases hd
  · obtain ⟨hne, hk, hv⟩ := match_law hok2 hpw hpath hfin hmem hy hbest
    have hdec : decide ((foldM D).hits > 0) = true := decide_eq_true (Nat.pos_of_ne_zero hne)
    obtain ⟨d, hd, _, _, d3, _⟩ := (fold_inv D hok2 hpw).best hne
    have hvl := valP_len (partsOf d.1) (partsOf (bys path)) []
    rw [(hok2 d hd).2, d3, ← hv] at hvl
    have hpl1 := (splitB_lenP 47 (strip1 d.1) []).1
    have hdl := hlen (tk d, d.1) (List.mem_map.2 ⟨d, hd, rfl⟩)
    have hsl := strip1_len d.1
    have hyl : ys.length ≤ 1000 := by
      simp only [List.length_nil, Nat.zero_add] at hvl
      unfold partsOf at hvl
      change d.1.length ≤ 100 at hdl
      omega
    refine ⟨v, mkS key, ys.map mkS, ?_, ?_, ?_, by rw [List.length_map]; exact hyl⟩
    · rw [he]
      show _ = Ending.returned (.tuple #[.string (mkS key), v, .bool (decide ((foldM D).hits > 0)), .int .i64 0])
      rw [hdec]
    · rw [List.length_map, List.map_map]
      exact ho
    · intro _
      rw [hk, hv]
      exact ⟨rfl, rfl⟩

set_option maxHeartbeats 2000000 in
set_option maxRecDepth 10000 in
theorem matchLaw (A : Option Addr) (c : Nat) (l : List ByteArray) (path : ByteArray) (w : World) (hr : Kd.C Kd.string w A l.length l) (hc : l.length ≤ c) (hTab : Hid (∀ W, Below w.heap.size w W → Lib.TabIs Tryd.prog W "strings.asciiSpace" .u8 Lib.asciiSpaceTab)) :
    Calls Tryd.prog 3 #[.slice A l.length c, .string path] w fun e w' => e = .returned (.bool true) ∧ Below w.heap.size w w' := by
  obtain ⟨kz, rz, hz, hzt⟩ := zz3_f l
  have HZ := Lib.hid (laws_zzFits3.calls kz A c l rz w hr hc hz)
  have HR := Lib.hid hr
  clear hz hr
  cases rz with
  | false =>
    clear hzt
    go_enter Tryd.func3, Tryd.ntmps3
    go_wp2_with fail
    refine HZ.out.mono ?_
    rintro e w1 ⟨rfl, hd1⟩
    have HB := Lib.hid (Drawn0.below hd1)
    clear hd1
    go_wp2_with fail
    go_ret
    exact ⟨rfl, HB.out⟩
  | true =>
    obtain ⟨hl31, hx31⟩ := hzt rfl
    clear hzt
    by_cases hbig : path.size ≤ 2147483647
    · obtain ⟨kp, rp, hp, hpt⟩ := paths_f l hl31 hx31
      have HP := Lib.hid (fun (W : World) (hb : Below w.heap.size w W) => laws_paths.calls kp A c l rp W (Kd.C_below HR.out hb) hc hp)
      have HPL := Lib.hid (fun W => laws_plain.calls _ path _ W (plain_f path hbig (path.size + 1) (Nat.lt_succ_self _)))
      clear hp hx31
      cases rp with
      | false =>
        clear hpt
        go_enter Tryd.func3, Tryd.ntmps3
        go_wp2_with fail
        refine HZ.out.mono ?_
        rintro e w1 ⟨rfl, hd1⟩
        have HB := Lib.hid (Drawn0.below hd1)
        clear hd1
        go_wp2_with fail
        refine (HP.out _ HB.out).mono ?_
        rintro e w2 ⟨rfl, hd2⟩
        have HB2 := Lib.hid (HB.out.trans ((Drawn0.below hd2).mono HB.out.size))
        clear hd2
        go_wp2_with fail
        go_ret
        exact ⟨rfl, HB2.out⟩
      | true =>
        obtain ⟨hl12, hpl⟩ := hpt rfl
        have HLP := Lib.hid hpl
        clear hpt hpl
        by_cases hpp : Plain path
        · have HPP := Lib.hid hpp
          rw [show decide (Plain path) = true from by simpa using hpp] at HPL
          by_cases h0 : path.toList = []
          · have h0b : (path.toList == ([] : List UInt8)) = true := by simpa using h0
            clear hpp h0
            go_enter Tryd.func3, Tryd.ntmps3
            go_wp2_with fail
            refine HZ.out.mono ?_
            rintro e w1 ⟨rfl, hd1⟩
            have HB := Lib.hid (Drawn0.below hd1)
            clear hd1
            go_wp2_with fail
            refine (HP.out _ HB.out).mono ?_
            rintro e w2 ⟨rfl, hd2⟩
            have HB2 := Lib.hid (HB.out.trans ((Drawn0.below hd2).mono HB.out.size))
            clear hd2
            go_wp2_with fail
            refine (HPL.out _).mono ?_
            rintro e w3 ⟨rfl, hd3⟩
            have HB3 := Lib.hid (HB2.out.trans ((Drawn0.below hd3).mono HB2.out.size))
            clear hd3
            go_wp2_with fail
            go_ret
            exact ⟨rfl, HB3.out⟩
          · have h0b : (path.toList == ([] : List UInt8)) = false := by simpa using h0
            obtain ⟨r, hrf, hrt⟩ := match_f l path (fun x hx => by have := (HLP.out x hx).1; omega) (by omega) (by have := hpp.1; omega) 400000 (Nat.le_refl _)
            obtain ⟨r1, r2, r3, r4⟩ := r
            have HSM := Lib.hid (fun (W : World) (hb : Below w.heap.size w W) => spec_Match.calls 400000 A c l path r1 r2 r3 r4 W (Kd.C_below HR.out hb) hc hrf)
            have HRT := Lib.hid hrt
            clear hrf hrt hpp h0
            go_enter Tryd.func3, Tryd.ntmps3
            go_wp2_with fail
            refine HZ.out.mono ?_
            rintro e w1 ⟨rfl, hd1⟩
            have HB := Lib.hid (Drawn0.below hd1)
            clear hd1
            go_wp2_with fail
            refine (HP.out _ HB.out).mono ?_
            rintro e w2 ⟨rfl, hd2⟩
            have HB2 := Lib.hid (HB.out.trans ((Drawn0.below hd2).mono HB.out.size))
            clear hd2
            go_wp2_with fail
            refine (HPL.out _).mono ?_
            rintro e w3 ⟨rfl, hd3⟩
            have HB3 := Lib.hid (HB2.out.trans ((Drawn0.below hd3).mono HB2.out.size))
            clear hd3
            go_wp2_with fail
            refine (HSM.out _ HB3.out).mono ?_
            rintro e w4 ⟨v1, rfl, hR1, hb4⟩
            have HB4 := Lib.hid (HB3.out.trans (hb4.mono HB3.out.size))
            have HR1 := Lib.hid hR1
            clear hR1 hb4
            by_cases h1 : r4 = 1
            · subst h1
              have hF : Final l (bys path) (r1, r2, r3, 1) := HRT.out rfl
              have HIM := Lib.hid (fun (W : World) (hW : Below w.heap.size w W) => implAt A c l path W (Kd.C_below HR.out hW) HLP.out hl12 HPP.out _ hF (show Hid _ from fun V hV => hTab.out V (hW.trans (hV.mono hW.size))))
              have HRO := Lib.hid (fun (W : World) (hW : Below w.heap.size w W) => routed W (show Hid _ from fun V hV => hTab.out V (hW.trans (hV.mono hW.size))))
              clear hF
              obtain ⟨A5, c5, rfl, hc5, hC5⟩ := Kd.R_reads HR1.out
              have HC5 := Lib.hid hC5
              clear hC5
              go_wp2_with fail
              refine (HIM.out _ HB4.out).mono ?_
              rintro e w5 ⟨⟨v, k, ys, rfl, hown, hky, hyl⟩, hb5⟩
              have HB5 := Lib.hid (HB4.out.trans (hb5.mono HB4.out.size))
              have HKY := Lib.hid hky
              have HC6 := Lib.hid (Kd.C_below HC5.out hb5)
              clear hky
              cases r3 with
              | false =>
                clear hown hb5
                go_wp2_with fail
                refine (HRO.out _ HB5.out).mono ?_
                rintro e w6 ⟨rfl, hb6⟩
                have HB6 := Lib.hid (HB5.out.trans (hb6.mono HB5.out.size))
                clear hb6
                go_wp2_with fail
                go_ret
                exact ⟨rfl, HB6.out⟩
              | true =>
                obtain ⟨hk1, hy1⟩ := HKY.out rfl
                change k = r1 at hk1
                change ys = r2 at hy1
                subst hk1 hy1
                obtain ⟨A7, c7, rfl, hc7, hC7⟩ := Kd.R_reads (R_of_strM hown)
                have hln : ys.length < 2 ^ 62 := Nat.lt_of_le_of_lt hyl (by decide)
                have HST := Lib.hid (PFnMatch.laws_sameTexts.calls (ys.length + 1) A7 c7 ys A5 c5 ys true w5 hC7 hc7 HC6.out hc5 (by rw [same_f _ _ hln _ (by omega)]; simp))
                clear hown hb5 hC7 hln
                go_wp2_with fail
                refine HST.out.mono ?_
                rintro e w6 ⟨rfl, hd6⟩
                have HB6 := Lib.hid (HB5.out.trans ((Drawn0.below hd6).mono HB5.out.size))
                clear hd6
                go_wp2_with fail
                refine (HRO.out _ HB6.out).mono ?_
                rintro e w7 ⟨rfl, hb7⟩
                have HB7 := Lib.hid (HB6.out.trans (hb7.mono HB6.out.size))
                clear hb7
                go_wp2_with fail
                go_ret
                exact ⟨rfl, HB7.out⟩
            · go_wp2_with fail
              go_ret
              exact ⟨rfl, HB4.out⟩
        · rw [show decide (Plain path) = false from by simpa using hpp] at HPL
          clear hpp
          go_enter Tryd.func3, Tryd.ntmps3
          go_wp2_with fail
          refine HZ.out.mono ?_
          rintro e w1 ⟨rfl, hd1⟩
          have HB := Lib.hid (Drawn0.below hd1)
          clear hd1
          go_wp2_with fail
          refine (HP.out _ HB.out).mono ?_
          rintro e w2 ⟨rfl, hd2⟩
          have HB2 := Lib.hid (HB.out.trans ((Drawn0.below hd2).mono HB.out.size))
          clear hd2
          go_wp2_with fail
          refine (HPL.out _).mono ?_
          rintro e w3 ⟨rfl, hd3⟩
          have HB3 := Lib.hid (HB2.out.trans ((Drawn0.below hd3).mono HB2.out.size))
          clear hd3
          go_wp2_with fail
          go_ret
          exact ⟨rfl, HB3.out⟩
    · go_enter Tryd.func3, Tryd.ntmps3
      go_wp2_with fail
      refine HZ.out.mono ?_
      rintro e w1 ⟨rfl, hd1⟩
      have HB := Lib.hid (Drawn0.below hd1)
      clear hd1
      go_wp2_with fail
      go_ret
      exact ⟨rfl, HB.out⟩
end Go.Proofs.YtpdnjgbcnnjdiaaDoor
