/- The law FnVariables answers true. -/
import Derived.Test.YtpdnjgbcnnjdiaaDoorVars
namespace Go.Proofs.YtpdnjgbcnnjdiaaDoor
open Go Go.RowKit Go.Proofs.YtpdnjgbcnnjdiaaDoorW.PrintWords Go.Proofs.YtpdnjgbcnnjdiaaDoor.PFnMatchBack
set_option linter.unusedVariables false
set_option linter.unusedSimpArgs false

theorem namP_snoc (l : List S33) (i : Nat) (h : i < l.length) : namP (l.take (i + 1)) = namP (l.take i) ++ (if l[i].f0 = true then [l[i].f1.data.toList] else []) := by
  have ht : l.take (i + 1) = l.take i ++ [l[i]] := by rw [List.take_add_one, List.getElem?_eq_getElem h]; rfl
  unfold namP
  rw [ht, List.flatMap_append, List.flatMap_cons, List.flatMap_nil, List.append_nil]
theorem lett_snoc (l : List S33) (i : Nat) (h : i < l.length) (h1 : ∀ x ∈ l.take i, Lett x.f1) (h2 : Lett l[i].f1) : ∀ x ∈ l.take (i + 1), Lett x.f1 := by
  have ht : l.take (i + 1) = l.take i ++ [l[i]] := by rw [List.take_add_one, List.getElem?_eq_getElem h]; rfl
  rw [ht]
  intro x hx
  rcases List.mem_append.1 hx with hx | hx
  · exact h1 x hx
  · rw [List.mem_singleton.1 hx]; exact h2

theorem own_below {w w' : World} {B e size n : Nat} {v : Value} {xs : List Value} (h : w.ownsRow B e size v n xs) (hb : Below w.heap.size w w') : w'.ownsRow B e size v n xs := by
  refine ⟨h.1, ?_⟩
  rcases h.2 with hn | ⟨g, cap, cur, hv, hbg, hg, rest⟩
  · exact .inl hn
  · exact .inr ⟨g, cap, cur, hv, hbg, by rw [hb.block g (Array.getElem?_eq_some_iff.1 hg).1]; exact hg, rest⟩
theorem copy_of {wr w2 : World} {a b : Value} {T : TypeId} (hb : Below (wr.alloc (.cells #[a, b] T)).heap.size (wr.alloc (.cells #[a, b] T)) w2) : w2.cell? ⟨wr.heap.size, 0, none⟩ = some a ∧ w2.cell? ⟨wr.heap.size, 1, none⟩ = some b := by
  have h : w2.heap[wr.heap.size]? = some (.cells #[a, b] T) := by rw [hb.block _ (by simp)]; exact heap_alloc_new _ _
  simp [World.cell?, h]
theorem cell_kept {w w1 : World} {b o : Nat} {v : Value} (h : w.cell? ⟨b, o, none⟩ = some v) (hb : Below w.heap.size w w1) : w1.cell? ⟨b, o, none⟩ = some v := by
  have hlt : b < w.heap.size := by
    rcases Nat.lt_or_ge b w.heap.size with hlt | hge
    · exact hlt
    · unfold World.cell? at h
      rw [Array.getElem?_eq_none hge] at h
      cases h
  have he := hb.block b hlt
  unfold World.cell? at h ⊢
  rw [he]
  exact h
theorem R_of_strs {w : World} {B : Nat} {v : Value} {l : List Bs} (h : w.ownsRow B 9 1 v l.length (strs l)) : Kd.R Kd.string 9 w B (fun _ => True) v (l.map mkS) :=
  Kd.R_of_own (by
    have he : strs l = encs Value.string (l.map mkS) := by simp [strs, encs, Function.comp_def]
    rw [List.length_map, ← he]
    exact h) (fun _ _ => trivial)

set_option maxHeartbeats 2000000 in
set_option maxRecDepth 10000 in
theorem varsLaw (A : Option Addr) (c : Nat) (l : List S33) (w : World) (hr : Kd.C k33 w A l.length l) (hc : l.length ≤ c) (hTab : Hid (∀ W, Below w.heap.size w W → Lib.TabIs Tryd.prog W "strings.asciiSpace" .u8 Lib.asciiSpaceTab)) :
    Calls Tryd.prog 5 #[.slice A l.length c] w fun e w' => e = .returned (.bool true) ∧ Below w.heap.size w w' := by
  have hu33 := Tryd.underlying33
  obtain ⟨i0, hi, hz0, hz1, hz2⟩ := info_parts infoStr
  obtain ⟨kz, rz, hz, hzt⟩ := zz4_f l
  have HZ := Lib.hid (laws_zzFits4.calls kz A c l rz w hr hc hz)
  clear hz
  cases rz with
  | false =>
    clear hzt hr
    go_enter Tryd.func5, Tryd.ntmps5
    go_wp2_with fail
    refine HZ.out.mono ?_
    rintro e w1 ⟨rfl, hb⟩
    have HB := Lib.hid hb
    clear hb
    go_wp2_with fail
    go_ret
    exact ⟨rfl, HB.out⟩
  | true =>
    obtain ⟨hl31, hx31⟩ := hzt rfl
    by_cases hlen : 1 ≤ l.length ∧ l.length ≤ 6
    · obtain ⟨hl1, hl6⟩ := hlen
      have HR := Lib.hid hr
      have HX := Lib.hid hx31
      have h6 : ∀ x : Int, (6 < x) = False → True := fun _ _ => trivial
      clear hr hx31 hzt h6
      go_enter Tryd.func5, Tryd.ntmps5
      go_wp2_with fail
      refine HZ.out.mono ?_
      rintro e w1 ⟨rfl, hb⟩
      have HB := Lib.hid hb
      clear hb
      go_wp2_with fail
      go_loopg [3, 21] l.length (fun g v3 v21 wr => ∃ i : Nat, i + g = l.length ∧ v21 = .int .i64 i ∧ Hid (∀ x ∈ l.take i, Lett x.f1) ∧ Hid (wr.ownsRow w.heap.size 9 1 v3 (namP (l.take i)).length (strs (namP (l.take i)))) ∧ Hid (Below w.heap.size w wr))
      case atStart =>
        refine ⟨0, by simp, rfl, ?_, ?_, HB⟩
        · intro x hx; cases hx
        · exact World.ownsRow_nil _ _ _ _
      case round =>
        obtain ⟨i, hi2, rfl, HLT, HO, HBR⟩ := hrel
        cases gk with
        | zero =>
          have hil : i = l.length := by omega
          subst hil
          rw [List.take_length] at HLT HO
          have hp100 : ∀ x ∈ l, x.f1.size ≤ 100 := fun x hx => by have := (HLT.out x hx).2.1; omega
          have hps : (mkS (patB l)).size ≤ 1000 := by
            rw [mkS_size]
            have := patB_len l hp100
            omega
          have HPAT := Lib.hid (fun (W : World) (hb : Below w.heap.size w W) => pattern A c l W (Kd.C_below HR.out hb) hc hl6 hp100)
          have HV := Lib.hid (fun (W : World) (hW : Below w.heap.size w W) => implVariables (mkS (patB l)) hps (tokP l) (namP l) (by rw [mkS_toList]; exact toks_strip l HLT.out) W (show Hid _ from fun V hV => hTab.out V (hW.trans (hV.mono hW.size))))
          have HRT := Lib.hid (fun (W : World) (hW : Below w.heap.size w W) => routed W (show Hid _ from fun V hV => hTab.out V (hW.trans (hV.mono hW.size))))
          have hnl := namP_len l
          obtain ⟨A3, c3, rfl, hc3, hC3⟩ := Kd.R_reads (R_of_strs HO.out)
          have hln : ((namP l).map mkS).length = (namP l).length := List.length_map ..
          have HC3 := Lib.hid hC3
          clear hp100 hC3
          go_wp2_with fail
          refine (HPAT.out _ HBR.out).mono ?_
          rintro e w2 ⟨rfl, hb2⟩
          have HB2 := Lib.hid (HBR.out.trans (hb2.mono HBR.out.size))
          have HC4 := Lib.hid (Kd.C_below HC3.out hb2)
          clear hb2
          go_wp2_with fail
          refine (HV.out _ HB2.out).mono ?_
          rintro e w3 ⟨⟨v, rfl, hown⟩, hb3⟩
          have HB3 := Lib.hid (HB2.out.trans (hb3.mono HB2.out.size))
          obtain ⟨A5, c5, rfl, hc5, hC5⟩ := Kd.R_reads (R_of_strs hown)
          have hst := PFnMatch.laws_sameTexts.calls (((namP l).map mkS).length + 1) A5 c5 _ A3 c3 _ true w3 hC5 hc5 (Kd.C_below HC4.out hb3) hc3 (by rw [same_f _ _ (by rw [hln]; omega) _ (by omega)]; simp)
          rw [hln] at hst
          have HST := Lib.hid hst
          clear hown hb3 hC5 hst
          go_wp2_with fail
          refine HST.out.mono ?_
          rintro e w4 ⟨rfl, hd4⟩
          have HB4 := Lib.hid (HB3.out.trans ((Drawn0.below hd4).mono HB3.out.size))
          clear hd4
          go_wp2_with fail
          refine (HRT.out _ HB4.out).mono ?_
          rintro e w5 ⟨rfl, hb5⟩
          have HB5 := Lib.hid (HB4.out.trans (hb5.mono HB4.out.size))
          clear hb5
          go_wp2_with fail
          go_ret
          exact ⟨rfl, HB5.out⟩
        | succ k =>
          have hil : i < l.length := by omega
          obtain ⟨ad, rfl, hc0, hc1⟩ := at_T33 (Kd.C_below HR.out HBR.out) (i : Int) (by omega) (by omega)
          rw [show ((i : Int)).toNat = i from by simp, show rd_T33 l (i : Int) = l[i] from by simp [rd_T33, List.getD, hil]] at hc0 hc1
          have hsz := HX.out _ (List.getElem_mem hil)
          have hw1 : wrap64 ((i : Int) + 1) = ((i + 1 : Nat) : Int) := by unfold wrap64; omega
          have HNX := Lib.hid (namP_snoc l i hil)
          have HLS := Lib.hid (lett_snoc l i hil HLT.out)
          generalize hpp : l[i] = pp at hc0 hc1 hsz HNX HLS
          clear hpp
          obtain ⟨f0, f1⟩ := pp
          replace hsz : f1.size ≤ 2147483647 := hsz
          replace HLS : Hid (Lett f1 → ∀ x ∈ l.take (i + 1), Lett x.f1) := HLS
          obtain ⟨kL, rL, hL, hLt⟩ := lett_f f1 hsz
          have HLL := Lib.hid (fun W => laws_letters.calls kL f1 rL W hL)
          have HLT2 := Lib.hid hLt
          clear hL hLt
          have HB3 := Lib.hid (HBR.out.alloc HBR.out.size (.cells #[.bool f0, .string f1] 33))
          cases rL with
          | false =>
            go_wp2_with fail
            refine (HLL.out _).mono ?_
            rintro e w2 ⟨rfl, hd⟩
            have HB4 := Lib.hid (HB3.out.trans ((Drawn0.below hd).mono HB3.out.size))
            clear hd
            go_wp2_with fail
            go_ret
            exact ⟨rfl, HB4.out⟩
          | true =>
            have HLS2 := Lib.hid (HLS.out (HLT2.out rfl))
            have hob := own_below HO.out ((Below.refl wr.heap.size wr).alloc (Nat.le_refl _) (.cells #[.bool f0, .string f1] 33))
            have HOB := Lib.hid hob
            clear hob
            cases f0 with
            | false =>
              go_wp2_with fail
              refine (HLL.out _).mono ?_
              rintro e w2 ⟨rfl, hd⟩
              have HB4 := Lib.hid (HB3.out.trans ((Drawn0.below hd).mono HB3.out.size))
              have HO4 := Lib.hid (own_below HOB.out (Drawn0.below hd))
              obtain ⟨q0, q1⟩ := copy_of (Drawn0.below hd)
              clear hd
              go_wp2_with fail
              go_roundg k
              case rel =>
                refine ⟨i + 1, by omega, rfl, HLS2, ?_, HB4⟩
                have h := HNX.out
                simp only [Bool.false_eq_true, if_false, List.append_nil] at h
                rw [h]
                exact HO4
              case measure => omega
            | true =>
              obtain ⟨A3, c3, rfl, hc3, hC3⟩ := Kd.R_reads (R_of_strs HO.out)
              obtain ⟨kW, rW, hW, hWf, _⟩ := within_f ((namP (l.take i)).map mkS) f1 (by
                rw [List.length_map]
                have := namP_len (l.take i)
                rw [List.length_take] at this
                omega)
              have hln : ((namP (l.take i)).map mkS).length = (namP (l.take i)).length := List.length_map ..
              have hww : ∀ W : World, Below wr.heap.size wr W → Calls Tryd.prog 18 #[.slice A3 (namP (l.take i)).length c3, .string f1] W (fun e w' => e = .returned (.bool rW) ∧ Drawn0 W w') := by
                intro W hb
                have := PFnVariables.laws_within.calls kW A3 c3 _ f1 rW W (Kd.C_below hC3 hb) hc3 hW
                rw [hln] at this
                exact this
              have HWW := Lib.hid hww
              rw [hln] at HO
              rw [hln] at HOB
              clear hww
              clear hW hWf hC3
              have HBA := Lib.hid ((Below.refl wr.heap.size wr).alloc (Nat.le_refl _) (.cells #[.bool true, .string f1] 33))
              go_wp2_with fail
              refine (HLL.out _).mono ?_
              rintro e w2 ⟨rfl, hd⟩
              have HB4 := Lib.hid (HB3.out.trans ((Drawn0.below hd).mono HB3.out.size))
              have HO4 := Lib.hid (own_below HOB.out (Drawn0.below hd))
              obtain ⟨q0, q1⟩ := copy_of (Drawn0.below hd)
              have HBW := Lib.hid (HBA.out.trans ((Drawn0.below hd).mono HBA.out.size))
              clear hd
              go_wp2_with fail
              refine (HWW.out _ HBW.out).mono ?_
              rintro e w3 ⟨rfl, hd3⟩
              have HB5 := Lib.hid (HB4.out.trans ((Drawn0.below hd3).mono HB4.out.size))
              have HO5 := Lib.hid (own_below HO4.out (Drawn0.below hd3))
              have q2 : w3.cell? ⟨wr.heap.size, 0, none⟩ = some (.bool true) := cell_kept q0 (Drawn0.below hd3)
              have q3 : w3.cell? ⟨wr.heap.size, 1, none⟩ = some (.string f1) := cell_kept q1 (Drawn0.below hd3)
              clear hd3
              cases rW with
              | true =>
                go_wp2_with fail
                go_ret
                exact ⟨rfl, HB5.out⟩
              | false =>
                have hsz5 := HB5.out.size
                have hnl := namP_len (l.take i)
                have hnl2 : (namP (l.take i)).length ≤ 6 := by rw [List.length_take] at hnl; omega
                clear hnl
                go_wp2_with (at_builtin; (refine wpList_append_own _ rfl _ _ 22 rfl w.heap.size 9 i0 (.string ⟨#[]⟩) 1 16 Tryd.underlying22 hi hz0 hz1 hz2 rfl (by decide) _ (namP (l.take i)).length (strs (namP (l.take i))) rfl (HO5.out.alloc _) ⟨w3.heap.size, 0, none⟩ 1 1 [.string f1] rfl rfl (cell_one_new _ _ _) (by intro u hu; simp at hu; subst hu; rfl) (by unfold maxLen; omega) (by omega) (by simp; omega) ?_); intro v4 w4 hown4 hg4 hn4; have HO6 := Lib.hid hown4; have HB6 := Lib.hid ((HB5.out.alloc HB5.out.size _).grown hg4 (by simp; omega) (fun j hj => (HO5.out.lt j hj).1)); clear hown4 hg4 hn4)
                go_roundg k
                case rel =>
                  refine ⟨i + 1, by omega, rfl, HLS2, ?_, HB6⟩
                  have h := HNX.out
                  simp only [if_true] at h
                  rw [h]
                  show World.ownsRow _ _ _ _ _ _ _
                  have h6 := HO6.out
                  simpa [strs, mkS_self] using h6
                case measure => omega
    · have HLEN := Lib.hid hlen
      clear hzt hr hx31 hlen
      by_cases h1 : l.length < 1
      · go_enter Tryd.func5, Tryd.ntmps5
        go_wp2_with fail
        refine HZ.out.mono ?_
        rintro e w1 ⟨rfl, hb⟩
        have HB := Lib.hid hb
        clear hb
        go_wp2_with fail
        go_ret
        exact ⟨rfl, HB.out⟩
      · have h2 : 6 < l.length := by
          have := HLEN.out
          omega
        go_enter Tryd.func5, Tryd.ntmps5
        go_wp2_with fail
        refine HZ.out.mono ?_
        rintro e w1 ⟨rfl, hb⟩
        have HB := Lib.hid hb
        clear hb
        go_wp2_with fail
        go_ret
        exact ⟨rfl, HB.out⟩
end Go.Proofs.YtpdnjgbcnnjdiaaDoor
