/- The law FnOrder answers true. -/
import Derived.Test.YtpdnjgbcnnjdiaaDoorOrdPure
import Derived.Test.YtpdnjgbcnnjdiaaDoorRouted
namespace Go.Proofs.YtpdnjgbcnnjdiaaDoor
open Go Go.RowKit Go.Maps Go.Proofs.YtpdnjgbcnnjdiaaDoorW.PrintWords Go.Proofs.YtpdnjgbcnnjdiaaDoor.PFnMatch
set_option linter.unusedVariables false
set_option linter.unusedSimpArgs false

set_option maxRecDepth 100000 in
theorem inOrder0 (pb mb n : Nat) (D : DataW Unit) (w : World) (ho : PObj w pb mb) (hm : PMap w mb n D) (hsz : Maps.size D = 0) :
    Calls Tryd.prog 42 #[.pointer (some ⟨pb, 0, none⟩)] w fun e w' => e = .returned (.slice none 0 0) ∧ w' = w := by
  have HL := Lib.hid (lenItems pb mb n D w ho hm)
  rw [hsz] at HL
  clear ho hm
  go_enter Tryd.func42, Tryd.ntmps42
  go_wp2_with fail
  refine HL.out.mono ?_
  rintro e w' ⟨rfl, rfl⟩
  go_wp2_with fail
  go_ret
  exact ⟨rfl, rfl⟩
theorem size_zero {w : World} {mb n : Nat} {D : DataW Unit} (hm : PMap w mb n D) (h : Maps.size D = 0) (k : Lit) : Maps.has D k = false := by
  obtain ⟨es, rfl⟩ := World.ownsMap.isMap hm
  have : es = [] := List.eq_nil_of_length_eq_zero h
  subst this
  rfl

set_option maxRecDepth 100000 in
theorem implOrder (A : Option Addr) (c : Nat) (l : List ByteArray) (w : World) (hr : Kd.C Kd.string w A l.length l) (hl : l.length ≤ 12) (hs : ∀ x ∈ l, x.size ≤ 60) :
    Calls Tryd.prog 23 #[.slice A l.length c] w fun e w' => ∃ v o, e = .returned v ∧ w'.ownsRow w.heap.size 9 1 v o.length (strs o) ∧ o.Nodup ∧ (∀ s, s ∈ o ↔ s ∈ l.map (·.data.toList)) ∧ o.Pairwise (fun a b => cntB a ≤ cntB b) ∧ Below w.heap.size w w' := by
  have HIP := Lib.hid (implPaths A c l w (fun W hW k hk => by
    obtain ⟨ad, h1, h2⟩ := Kd.at_string (Kd.C_below hr hW) (k : Int) (by omega) (by omega)
    refine ⟨ad, h1, ?_⟩
    rw [show ((k : Nat) : Int).toNat = k from by simp, show rdOf ByteArray.empty l (k : Int) = l[k] from by simp [rdOf, List.getD, hk]] at h2
    exact h2) (by omega) (fun x hx => by have := hs x hx; unfold maxLen; omega))
  have HS := Lib.hid hs
  clear hr hs
  go_enter Tryd.func23, Tryd.ntmps23
  go_wp2_with fail
  refine HIP.out.mono ?_
  rintro e w1 ⟨pb, mb, D, rfl, ho, hm, hp, hpb, hmb, hb⟩
  have hkeys : ∀ s : Bs, Maps.has D (.string s) = true → s.length ≤ 100 := fun s hs => by
    obtain ⟨x, hx, rfl⟩ := List.mem_map.1 ((hp.keys s).1 hs)
    have := HS.out x hx
    rw [size_list]
    omega
  by_cases hsz : Maps.size D = 0
  · have HI := Lib.hid (inOrder0 pb mb l.length D w1 ho hm hsz)
    have hno : ∀ s : Bs, s ∉ l.map (·.data.toList) := fun s hs => by
      have := (hp.keys s).2 hs
      rw [size_zero hm hsz] at this
      cases this
    have HB := Lib.hid hb
    have HNO := Lib.hid hno
    clear ho hm hp hb hno hkeys
    go_wp2_with fail
    refine HI.out.mono ?_
    rintro e w2 ⟨rfl, rfl⟩
    go_wp2_with fail
    go_ret
    exact ⟨.slice none 0 0, [], rfl, World.ownsRow_nil _ _ _ _, List.nodup_nil, fun s => ⟨fun h => (by cases h), fun h => (HNO.out s h).elim⟩, List.Pairwise.nil, HB.out⟩
  · have HI := Lib.hid (inOrder pb mb l.length D w1 ho hm hl (by omega) hkeys)
    have HB := Lib.hid hb
    have HK := Lib.hid hp.keys
    clear ho hm hp hb hkeys
    go_wp2_with fail
    refine HI.out.mono ?_
    rintro e w2 ⟨v, o, rfl, hown, hnd, hmem, hpw, hb2⟩
    have HX := Lib.hid (And.intro hown (And.intro hnd (And.intro hmem (And.intro hpw hb2))))
    clear hown hnd hmem hpw hb2
    go_wp2_with fail
    go_ret
    obtain ⟨hown, hnd, hmem, hpw, hb2⟩ := HX.out
    refine ⟨v, o, rfl, own_lower hown HB.out.size, hnd, fun s => by rw [hmem, HK.out], hpw, HB.out.trans (hb2.mono HB.out.size)⟩

theorem R_of_strsO {w : World} {B : Nat} {v : Value} {l : List Bs} (h : w.ownsRow B 9 1 v l.length (strs l)) : Kd.R Kd.string 9 w B (fun _ => True) v (l.map mkS) :=
  Kd.R_of_own (by
    have he : strs l = encs Value.string (l.map mkS) := by simp [strs, encs, Function.comp_def]
    rw [List.length_map, ← he]
    exact h) (fun _ _ => trivial)
set_option maxHeartbeats 4000000 in
set_option maxRecDepth 10000 in
theorem orderLaw (A : Option Addr) (c : Nat) (l : List ByteArray) (w : World) (hr : Kd.C Kd.string w A l.length l) (hc : l.length ≤ c) (hTab : Hid (∀ W, Below w.heap.size w W → Lib.TabIs Tryd.prog W "strings.asciiSpace" .u8 Lib.asciiSpaceTab)) :
    Calls Tryd.prog 7 #[.slice A l.length c] w fun e w' => e = .returned (.bool true) ∧ Below w.heap.size w w' := by
  obtain ⟨kz, rz, hz, hzt⟩ := zz3_f l
  have HZ := Lib.hid (laws_zzFits3.calls kz A c l rz w hr hc hz)
  have HR := Lib.hid hr
  clear hz hr
  cases rz with
  | false =>
    clear hzt
    go_enter Tryd.func7, Tryd.ntmps7
    go_wp2_with fail
    refine HZ.out.mono ?_
    rintro e w1 ⟨rfl, hd1⟩
    have HB := Lib.hid (Drawn0.below hd1)
    clear hd1
    go_wp2_with fail
    go_ret
    exact ⟨rfl, HB.out⟩
  | true =>
    obtain ⟨hl31, hx31⟩ := hzt rfl
    clear hzt
    obtain ⟨kp, rp, hp, hpt⟩ := paths_f l hl31 hx31
    have HP := Lib.hid (fun (W : World) (hb : Below w.heap.size w W) => laws_paths.calls kp A c l rp W (Kd.C_below HR.out hb) hc hp)
    clear hp hx31
    cases rp with
    | false =>
      clear hpt
      go_enter Tryd.func7, Tryd.ntmps7
      go_wp2_with fail
      refine HZ.out.mono ?_
      rintro e w1 ⟨rfl, hd1⟩
      have HB := Lib.hid (Drawn0.below hd1)
      clear hd1
      go_wp2_with fail
      refine (HP.out _ HB.out).mono ?_
      rintro e w2 ⟨rfl, hd2⟩
      have HB2 := Lib.hid (HB.out.trans ((Drawn0.below hd2).mono HB.out.size))
      clear hd2
      go_wp2_with fail
      go_ret
      exact ⟨rfl, HB2.out⟩
    | true =>
      obtain ⟨hl12, hpl⟩ := hpt rfl
      have HLP := Lib.hid hpl
      clear hpt hpl hl31
      go_enter Tryd.func7, Tryd.ntmps7
      go_wp2_with fail
      refine HZ.out.mono ?_
      rintro e w1 ⟨rfl, hd1⟩
      have HB := Lib.hid (Drawn0.below hd1)
      clear hd1
      go_wp2_with fail
      refine (HP.out _ HB.out).mono ?_
      rintro e w2 ⟨rfl, hd2⟩
      have HB2 := Lib.hid (HB.out.trans ((Drawn0.below hd2).mono HB.out.size))
      clear hd2
      go_wp2_with fail
      obtain ⟨i0, hi0, hz0, hz1, hz2⟩ := info_parts infoStr
      go_loopg [17] l.length (fun g v17 wr => ∃ i : Nat, i + g = l.length ∧ v17 = .int .i64 i ∧ Hid (((l.take i).map (·.data.toList)).Nodup) ∧ Hid (∀ x ∈ l.take i, cntO x.data.toList = cntB x.data.toList) ∧ Hid (Below w.heap.size w wr))
      case atStart => exact ⟨0, by simp, rfl, List.nodup_nil, (show ∀ x ∈ ([] : List ByteArray), _ from fun x hx => by cases hx), HB2⟩
      case round =>
        obtain ⟨i, hig, rfl, hND, hBR, hB⟩ := hrel
        cases gk with
        | zero =>
          have hil : i = l.length := by omega
          subst hil
          rw [List.take_length] at hND hBR
          have HIO := Lib.hid (implOrder A c l wr (Kd.C_below HR.out hB.out) hl12 (fun x hx => (HLP.out x hx).1))
          have HRO := Lib.hid (fun (W : World) (hW : Below w.heap.size w W) => routed W (show Hid _ from fun V hV => hTab.out V (hW.trans (hV.mono hW.size))))
          go_wp2_with fail
          refine HIO.out.mono ?_
          rintro e w3 ⟨v, o, rfl, hown, hnd, hmem, hpw, hb3⟩
          have HB3 := Lib.hid (hB.out.trans (hb3.mono hB.out.size))
          have hpm : o.Perm (l.map (·.data.toList)) := (List.perm_ext_iff_of_nodup hnd hND.out).2 hmem
          have hol : o.length = l.length := by simpa using hpm.length_eq
          obtain ⟨O, hO⟩ : ∃ O : List ByteArray, O = o.map mkS := ⟨_, rfl⟩
          have hOo : O.map (·.data.toList) = o := by rw [hO, List.map_map]; simp [Function.comp_def, mkS_toList]
          have hOl : O.length = l.length := by rw [hO, List.length_map]; exact hol
          obtain ⟨A5, c5, rfl, hc5, hC5⟩ := Kd.R_reads (R_of_strsO hown)
          rw [← hO, hOl] at hc5 hC5
          rw [← hO, hOl]
          rw [← hOo] at hnd hmem hpw
          have HC5 := Lib.hid hC5
          have HND := Lib.hid hnd
          have HME := Lib.hid hmem
          have HPW := Lib.hid hpw
          have HOL := Lib.hid hOl
          clear hown hb3 hpm hol hO hOo hC5 hnd hmem hpw hOl hND
          have hnel : (((l.length : Nat) : Int) != ((l.length : Nat) : Int)) = false := by simp
          go_wp2_with fail
          go_loopg [6, 52] l.length (fun g v6 v52 wr => ∃ (i : Nat) (fl : Bool), i + g = l.length ∧ v52 = .int .i64 i ∧ v6 = .bool fl ∧ Hid (fl = true → ∃ x ∈ O.take i, cntB x.data.toList ≠ 0) ∧ Hid (Below w3.heap.size w3 wr))
          case atStart => exact ⟨0, false, by simp, rfl, rfl, (show false = true → _ from fun e => by cases e), Below.refl _ _⟩
          case round =>
            obtain ⟨i, fl, hig2, rfl, rfl, hFL, hB4⟩ := hrel
            have HB5 := Lib.hid (HB3.out.trans (hB4.out.mono HB3.out.size))
            cases gk with
            | zero =>
              have hil : i = l.length := by omega
              subst hil
              go_wp2_with fail
              refine (HRO.out _ HB5.out).mono ?_
              rintro e w6 ⟨rfl, hb6⟩
              have HB6 := Lib.hid (HB5.out.trans (hb6.mono HB5.out.size))
              clear hb6
              go_wp2_with fail
              go_ret
              exact ⟨rfl, HB6.out⟩
            | succ k =>
              have hil : i < l.length := by omega
              have hiO : i < O.length := by rw [HOL.out]; exact hil
              have hCO := Kd.C_below HC5.out hB4.out
              obtain ⟨ad5, rfl, hcell⟩ := Kd.at_string hCO (i : Int) (by omega) (by omega)
              rw [show ((i : Nat) : Int).toNat = i from by simp, show rdOf ByteArray.empty O (i : Int) = O[i] from by simp [rdOf, List.getD, hiO]] at hcell
              have hCO2 : Kd.C Kd.string wr (some ad5) O.length O := by rw [HOL.out]; exact hCO
              obtain ⟨hcut, hrdt, hlct⟩ := print_take_of (P := Tryd.prog) Value.string (⟨#[]⟩ : ByteArray) 22 9 .i64 Tryd.underlying22 hi0 hz1 (some ad5) c5 O (i : Int) (by omega) (by omega) (by rw [HOL.out]; exact hc5)
              rw [show ((i : Nat) : Int).toNat = i from by simp] at hcut hrdt hlct
              have HRT := Lib.hid (Kd.C_of_reads (h1 := fun _ => rfl) (hrdt _ (Kd.reads_of_C hCO2)))
              rw [HOL.out] at hcut
              obtain ⟨kA, rA, hA, hAf, _⟩ := within_f l O[i] (by omega)
              obtain ⟨kW, rW, hW, _, hWt⟩ := within_f (O.take i) O[i] (by rw [List.length_take]; omega)
              have hpl : ∃ x ∈ l, x.data.toList = O[i].data.toList := by
                have := (HME.out O[i].data.toList).1 (List.mem_map.2 ⟨O[i], List.getElem_mem hiO, rfl⟩)
                obtain ⟨x, hx, he⟩ := List.mem_map.1 this
                exact ⟨x, hx, he⟩
              have hrA : rA = true := by
                cases rA with
                | true => rfl
                | false =>
                  obtain ⟨x, hx, he⟩ := hpl
                  exact absurd he (hAf rfl x hx)
              subst hrA
              have hrW : rW = false := by
                cases rW with
                | false => rfl
                | true =>
                  obtain ⟨x, hx, he⟩ := hWt rfl
                  exfalso
                  have hnd := HND.out
                  obtain ⟨j, hj, rfl⟩ := List.getElem_of_mem hx
                  have hji : j < i := by rw [List.length_take] at hj; omega
                  have hjl : j < O.length := by omega
                  rw [List.getElem_take] at he
                  have hp := (List.pairwise_iff_getElem.1 hnd) j i (by simpa using hjl) (by simpa using hiO) hji
                  rw [List.getElem_map, List.getElem_map] at hp
                  exact hp he
              subst hrW
              obtain ⟨bC, hbC, hbC2⟩ := conc_f O[i] (by
                obtain ⟨x, hx, he⟩ := hpl
                have := (HLP.out x hx).1
                have h2 := congrArg List.length he
                rw [size_list, size_list] at h2
                omega) 1000 (by
                obtain ⟨x, hx, he⟩ := hpl
                have := (HLP.out x hx).1
                have h2 := congrArg List.length he
                rw [size_list, size_list] at h2
                omega)
              have hcc : bC = true ↔ cntB O[i].data.toList = 0 := by
                rw [hbC2, ← cntO_zero]
                obtain ⟨x, hx, he⟩ := hpl
                have := hBR.out x hx
                rw [he] at this
                show cntO (bys O[i]) = 0 ↔ _
                rw [show cntO (bys O[i]) = cntB (bys O[i]) from this]
              have htk : O.take (i + 1) = O.take i ++ [O[i]] := by rw [List.take_add_one, List.getElem?_eq_getElem hiO]; rfl
              have hord : ∀ x ∈ O.take i, cntB x.data.toList ≤ cntB O[i].data.toList := by
                intro x hx
                obtain ⟨j, hj, rfl⟩ := List.getElem_of_mem hx
                have hji : j < i := by rw [List.length_take] at hj; omega
                have hjl : j < O.length := by omega
                have hp := (List.pairwise_iff_getElem.1 HPW.out) j i (by simpa using hjl) (by simpa using hiO) hji
                rw [List.getElem_map, List.getElem_map] at hp
                rw [List.getElem_take]
                exact hp
              have HWA := Lib.hid (fun (W : World) (hW : Below w.heap.size w W) => PFnVariables.laws_within.calls kA A c l O[i] true W (Kd.C_below HR.out hW) hc hA)
              have HWI := Lib.hid (fun (W : World) (hb : Below wr.heap.size wr W) => PFnVariables.laws_within.calls kW (some ad5) c5 (O.take i) O[i] false W (Kd.C_below HRT.out hb) hlct hW)
              have HCN := Lib.hid (fun W => spec_Concrete.calls 1000 O[i] bC W hbC)
              generalize hTK : O.take i = TK at hcut HWI htk hord hFL hlct
              have HCC := Lib.hid hcc
              have HORD := Lib.hid hord
              have HTK := Lib.hid htk
              generalize O[i] = s at hcell HWA HWI HCN HCC HORD HTK
              clear hrdt hA hW hAf hWt hpl hbC hbC2 hcc htk hord hTK hCO hCO2
              go_wp2_with fail
              refine (HWA.out _ HB5.out).mono ?_
              rintro e w5 ⟨rfl, hd5⟩
              have hbb5 := Drawn0.below hd5
              have HW5 := Lib.hid (HWI.out w5 hbb5)
              have HB6 := Lib.hid (HB5.out.trans (hbb5.mono HB5.out.size))
              have HD5 := Lib.hid hbb5
              clear hd5 hbb5
              go_wp2_with fail
              refine HW5.out.mono ?_
              rintro e w6 ⟨rfl, hd6⟩
              have HB7 := Lib.hid (HB6.out.trans ((Drawn0.below hd6).mono HB6.out.size))
              have HD6 := Lib.hid (HD5.out.trans ((Drawn0.below hd6).mono HD5.out.size))
              clear hd6
              go_wp2_with fail
              refine (HCN.out _).mono ?_
              rintro e w7 ⟨rfl, hd7⟩
              have HD7 := Lib.hid (HD6.out.trans ((Drawn0.below hd7).mono HD6.out.size))
              have HB8 := Lib.hid (hB4.out.trans (HD7.out.mono hB4.out.size))
              clear hd7
              cases bC with
              | false =>
                have hne0 : cntB s.data.toList ≠ 0 := fun e => by have := HCC.out.2 e; cases this
                have HNE := Lib.hid hne0
                clear hne0
                go_wp2_with fail
                go_roundg k
                case rel =>
                  refine ⟨i + 1, true, by omega, by simp, rfl, ?_, HB8⟩
                  show true = true → _
                  intro _
                  rw [HTK.out]
                  exact ⟨s, by simp, HNE.out⟩
                case measure => omega
              | true =>
                have hz : cntB s.data.toList = 0 := HCC.out.1 rfl
                have hfl : fl = false := by
                  cases fl with
                  | false => rfl
                  | true =>
                    obtain ⟨x, hx, hne⟩ := hFL.out rfl
                    have := HORD.out x hx
                    omega
                subst hfl
                clear hz
                go_wp2_with fail
                go_roundg k
                case rel =>
                  refine ⟨i + 1, false, by omega, by simp, rfl, ?_, HB8⟩
                  show false = true → _
                  intro e
                  cases e
                case measure => omega
        | succ k =>
          have hil : i < l.length := by omega
          obtain ⟨ad, rfl, hcell⟩ := Kd.at_string (Kd.C_below HR.out hB.out) (i : Int) (by omega) (by omega)
          rw [show ((i : Nat) : Int).toNat = i from by simp, show rdOf ByteArray.empty l (i : Int) = l[i] from by simp [rdOf, List.getD, hil]] at hcell
          obtain ⟨hcut, hrdt, hlct⟩ := print_take_of (P := Tryd.prog) Value.string (⟨#[]⟩ : ByteArray) 22 9 .i64 Tryd.underlying22 hi0 hz1 (some ad) c l (i : Int) (by omega) (by omega) hc
          rw [show ((i : Nat) : Int).toNat = i from by simp] at hcut hrdt hlct
          have HRT := Lib.hid (Kd.C_of_reads (h1 := fun _ => rfl) (hrdt _ (Kd.reads_of_C (Kd.C_below HR.out hB.out))))
          obtain ⟨kW, rW, hW, hWf, _⟩ := within_f (l.take i) l[i] (by rw [List.length_take]; omega)
          have HWI := Lib.hid (PFnVariables.laws_within.calls kW (some ad) c (l.take i) l[i] rW wr HRT.out hlct hW)
          have htk : l.take (i + 1) = l.take i ++ [l[i]] := by rw [List.take_add_one, List.getElem?_eq_getElem hil]; rfl
          have hsz := (HLP.out _ (List.getElem_mem hil)).1
          have hWF := Lib.hid hWf
          obtain ⟨bB, hbB, hbB2⟩ := braced_f l[i] (by omega) 1000 (by omega)
          have HBC := Lib.hid (fun W => PFnOrder.laws_braced.calls 1000 l[i] bB W hbB)
          have HBB := Lib.hid hbB2
          generalize hTK : l.take i = TK at hcut HRT HWI hWF htk hlct hND hBR
          generalize l[i] = s at hcell HWI hWF htk hsz HBC HBB
          have HTK := Lib.hid htk
          clear hrdt hW hWf hbB hbB2 htk hTK
          cases rW with
          | true =>
            go_wp2_with fail
            refine HWI.out.mono ?_
            rintro e w3 ⟨rfl, hd3⟩
            have HB3 := Lib.hid (hB.out.trans ((Drawn0.below hd3).mono hB.out.size))
            clear hd3
            go_wp2_with fail
            go_ret
            exact ⟨rfl, HB3.out⟩
          | false =>
            by_cases hs0 : s.size = 0
            · go_wp2_with fail
              refine HWI.out.mono ?_
              rintro e w3 ⟨rfl, hd3⟩
              have HB3 := Lib.hid (hB.out.trans ((Drawn0.below hd3).mono hB.out.size))
              clear hd3
              have hs0b : ((s.size : Int) == 0) = true := by simp [hs0]
              go_wp2_with fail
              go_ret
              exact ⟨rfl, HB3.out⟩
            · go_wp2_with fail
              refine HWI.out.mono ?_
              rintro e w3 ⟨rfl, hd3⟩
              have HB3 := Lib.hid (hB.out.trans ((Drawn0.below hd3).mono hB.out.size))
              clear hd3
              go_wp2_with fail
              · refine (HBC.out _).mono ?_
                rintro e w4 ⟨rfl, hd4⟩
                have HB4 := Lib.hid (HB3.out.trans ((Drawn0.below hd4).mono HB3.out.size))
                clear hd4
                cases bB with
                | false =>
                  go_wp2_with fail
                  go_ret
                  exact ⟨rfl, HB4.out⟩
                | true =>
                  go_wp2_with fail
                  go_roundg k
                  case rel =>
                    refine ⟨i + 1, by omega, by simp, ?_, ?_, HB4⟩
                    · show List.Nodup _
                      rw [HTK.out, List.map_append]
                      refine List.nodup_append.2 ⟨hND.out, by simp, fun a ha b hb => ?_⟩
                      obtain ⟨x, hx, rfl⟩ := List.mem_map.1 ha
                      have : b = s.data.toList := by simpa using hb
                      rw [this]
                      exact hWF.out trivial x hx
                    · show ∀ x ∈ _, _
                      rw [HTK.out]
                      intro x hx
                      rcases List.mem_append.1 hx with hx | hx
                      · exact hBR.out x hx
                      · rw [List.mem_singleton.1 hx]; exact HBB.out trivial
                  case measure => omega
              · go_ret
                exact ⟨rfl, HB3.out⟩
end Go.Proofs.YtpdnjgbcnnjdiaaDoor
