/- Paths.Find, impl.Find. -/
import Derived.Test.YtpdnjgbcnnjdiaaGreatDoorFndA
import Derived.Test.YtpdnjgbcnnjdiaaGreatDoorFndC
namespace Go.Proofs.YtpdnjgbcnnjdiaaGreatDoor
open Go Go.RowKit Go.Sort Go.Maps Go.MapKept Go.ChangeMaps Go.WideMaps
set_option linter.unusedVariables false
set_option linter.unusedSimpArgs false

theorem PObj.belowF {w w' : World} {pb mb B : Nat} (h : PObj w pb mb) (hb : Below B w w') (hlt : pb < B) : PObj w' pb mb := (hb.block pb hlt).trans h
theorem PMap.belowF {w w' : World} {mb n B : Nat} {D : DataW Unit} (h : PMap w mb n D) (hb : Below B w w') (hlt : mb < B) : PMap w' mb n D := by
  obtain ⟨es, clock, h1, h2⟩ := h
  exact ⟨es, clock, (hb.block mb hlt).trans h1, h2⟩
theorem PHas.belowF {w w' : World} {base : Nat} {D : DataW Unit} {L : List Bs} (h : PHas w base D L) (hb : Below w.heap.size w w') : PHas w' base D L :=
  ⟨h.keys, fun s hs => by
    obtain ⟨b, h1, h2, h3⟩ := h.refs s hs
    exact ⟨b, h1, h2, (hb.block b (Array.getElem?_eq_some_iff.1 h3).1).trans h3⟩⟩
/-- What Paths.Find answers. -/
def PAns (w : World) (L : List Bs) (key : Bs) (v : Value) : Prop :=
  (v = .pointer none ∧ key ∉ L ∧ ∀ t ∈ L, nF t ≠ nF key) ∨ (∃ (b : Nat) (t : Bs), v = .pointer (some ⟨b, 0, none⟩) ∧ w.heap[b]? = some (.cells #[.string (mkS t)] 40 (0, 0)) ∧ t ∈ L ∧ (t = key ∨ (key ∉ L ∧ nF t = nF key)))

theorem grown_below {w w' : World} (h : w.grownBy w' none) : Below w.heap.size w w' := grownBy_below h (Nat.le_refl _) (fun b hb => by cases hb)
set_option maxHeartbeats 4000000 in
set_option maxRecDepth 100000 in
theorem pathsFind (pb mb n base : Nat) (D : DataW Unit) (L : List Bs) (key : ByteArray) (w : World) (ho : PObj w pb mb) (hm : PMap w mb n D) (hP : PHas w base D L) (hn : n ≤ 1000) (hL : ∀ t ∈ L, t.length ≤ 100 ∧ ∀ b ∈ t, b.toNat < 128) (hk : key.size ≤ 100) (hka : ∀ b ∈ key.data.toList, b.toNat < 128) :
    Calls Tryz.prog 14 #[.pointer (some ⟨pb, 0, none⟩), .string key] w fun e w' => (∃ v, e = .returned v ∧ PAns w' L key.data.toList v) ∧ Below w.heap.size w w' := by
  have HVI := Lib.hid (valueItem ho hm hP key (by unfold maxLen; omega))
  have HO := Lib.hid ho
  have HM := Lib.hid hm
  have HP := Lib.hid hP
  have HL := Lib.hid hL
  have HKA := Lib.hid hka
  have hszn := World.ownsMap.size_le hm
  have hml := World.ownsMap.lt hm
  have hpl := PObj.lt ho
  clear ho hm hP hL hka
  go_enter Tryz.func14, Tryz.ntmps14
  go_wp2_with fail
  refine HVI.out.mono ?_
  rintro e w0 ⟨v, rfl, hw0, hv1, hv2⟩
  subst hw0
  by_cases hin : key.data.toList ∈ L
  · obtain ⟨b, rfl, hb⟩ := hv1 hin
    clear hv1 hv2
    go_wp2_with fail
    go_ret
    exact ⟨⟨_, rfl, .inr ⟨b, key.data.toList, rfl, by rw [mkS_self]; exact hb, hin, .inl rfl⟩⟩, Below.refl _ _⟩
  · have hv := hv2 hin
    subst hv
    clear hv1 hv2
    go_wp2_with fail
    refine (normPath key hk HKA.out _).mono ?_
    rintro e w1 ⟨⟨m, rfl⟩, hb1⟩
    have HB1 := Lib.hid hb1
    clear hb1
    go_wp2_with fail
    have hs1 := HB1.out.size
    refine (mapItems0 pb mb n D w1 (PObj.belowF HO.out HB1.out hpl) (PMap.belowF HM.out HB1.out hml) (by omega)).mono ?_
    rintro e w2 ⟨rfl, hm2, hg2⟩
    have HM2 := Lib.hid hm2
    have HB2 := Lib.hid (grown_below hg2)
    have hml2 := World.ownsMap.lt hm2
    clear hm2 hg2
    go_wp2_with fail
    refine (compNames w1.heap.size (Maps.size D) D w2 HM2.out (by omega)).mono ?_
    rintro e w3 ⟨g, cap, o, rfl, hown, hnd, hmem, hol, hg3⟩
    have HM3 := Lib.hid (PMap.belowF HM2.out (grown_below hg3) hml2)
    have HB3 := Lib.hid (grown_below hg3)
    have HOW := Lib.hid hown
    have HME := Lib.hid hmem
    have hs2 := HB2.out.size
    have hs3 := HB3.out.size
    have HB03 := Lib.hid (HB1.out.trans ((Below.low HB2.out hs1).trans (Below.low HB3.out (Nat.le_trans hs1 hs2))))
    have HP3 := Lib.hid (PHas.belowF HP.out HB03.out)
    have hml3 := World.ownsMap.lt HM3.out
    clear hown hmem hg3
    go_wp2_with fail
    go_loopg [32] o.length (fun gg v32 wr => ∃ i : Nat, i + gg = o.length ∧ v32 = .int .i64 i ∧ Hid (Below w3.heap.size w3 wr) ∧ Hid (∀ t ∈ o.take i, nF t ≠ nF key.data.toList))
    case atStart =>
      exact ⟨0, by simp, rfl, Below.refl _ _, (show ∀ t ∈ o.take 0, _ from fun t ht => by simp at ht)⟩
    case round =>
      obtain ⟨i, hig, rfl, hB, hN⟩ := hrel
      cases gk with
      | zero =>
        have hil : i = o.length := by omega
        subst hil
        go_wp2_with fail
        go_ret
        refine ⟨⟨_, rfl, .inl ⟨rfl, hin, fun t ht => ?_⟩⟩, HB03.out.trans (Below.low hB.out (by omega))⟩
        have h1 := hN.out
        rw [List.take_length] at h1
        exact h1 t ((HME.out t).2 ((HP.out.keys t).2 ht))
      | succ k =>
        have hil : i < o.length := by omega
        have hi1000 : i ≤ 1000 := by omega
        have hti : o[i] ∈ L := (HP.out.keys _).1 ((HME.out _).1 (List.getElem_mem hil))
        have htk : o.take (i + 1) = o.take i ++ [o[i]] := by rw [List.take_add_one, List.getElem?_eq_getElem hil]; rfl
        have hadd : ((⟨g, 0, none⟩ : Addr).add i) = ⟨g, i, none⟩ := by unfold Addr.add; split <;> simp_all
        have hcell : wr.cell? ⟨g, i, none⟩ = some (.string (mkS o[i])) := by
          rw [show wr.cell? ⟨g, i, none⟩ = w3.cell? ⟨g, i, none⟩ from hB.out.cell (show g < w3.heap.size from (HOW.out.lt g rfl).2), ← hadd]
          exact HOW.out.cells (g := g) rfl i _ (by simp [strs, hil])
        clear hadd
        have hlk := HL.out _ hti
        have HTK := Lib.hid htk
        have HTI := Lib.hid hti
        clear htk hti
        generalize o[i] = t at hcell hlk HTK HTI
        have HNP := Lib.hid (normPath (mkS t) (by rw [mkS_size]; exact hlk.1) (by rw [mkS_toList]; exact hlk.2) wr)
        rw [mkS_toList] at HNP
        have HW1 := Lib.hid (show wrap64 ((i : Int) + 1) = ((i + 1 : Nat) : Int) from by clear hig hil hlk; have : i ≤ 1000 := hi1000; unfold wrap64; omega)
        by_cases hF : nF t = nF key.data.toList
        · have hF1 : nB false t = nB false key.data.toList := congrArg Prod.fst hF
          have hF2 : cB false t = cB false key.data.toList := congrArg Prod.snd hF
          rw [hF1, hF2] at HNP
          go_wp2_with fail
          refine HNP.out.mono ?_
          rintro e w5 ⟨⟨m5, rfl⟩, hb5⟩
          have HB5 := Lib.hid (hB.out.trans (Below.low hb5 hB.out.size))
          clear hb5
          have hszz := HB5.out.size
          obtain ⟨vv, hlook, hv1, hv2⟩ := lookItem (PMap.belowF HM3.out HB5.out hml3) (PHas.belowF HP3.out HB5.out) (mkS t) (by rw [mkS_size]; have := hlk.1; unfold maxLen; omega)
          rw [mkS_toList] at hv1
          obtain ⟨b, rfl, hb⟩ := hv1 HTI.out
          clear hv1 hv2
          go_wp2_with fail
          go_ret
          exact ⟨⟨_, rfl, .inr ⟨b, t, rfl, hb, HTI.out, .inr ⟨hin, hF⟩⟩⟩, HB03.out.trans (Below.low HB5.out (by omega))⟩
        · by_cases hc : cB false t = cB false key.data.toList
          · have hnb : nB false t ≠ nB false key.data.toList := fun e => hF (Prod.ext e hc)
            have hq1 : ((cB false t : Int) == (cB false key.data.toList : Int)) = true := beq_iff_eq.2 (by rw [hc])
            have hq2 : ((mkS (nB false t)).toList == (mkS (nB false key.data.toList)).toList) = false := by rw [toL, toL, mkS_toList, mkS_toList]; simpa using hnb
            go_wp2_with fail
            refine HNP.out.mono ?_
            rintro e w5 ⟨⟨m5, rfl⟩, hb5⟩
            have HB5 := Lib.hid (hB.out.trans (Below.low hb5 hB.out.size))
            clear hb5
            go_wp2_with fail
            go_roundg k
            case rel =>
              refine ⟨i + 1, by omega, by simp, HB5, ?_⟩
              show ∀ u ∈ o.take (i + 1), _
              rw [HTK.out]
              intro u hu
              rcases List.mem_append.1 hu with hu | hu
              · exact hN.out u hu
              · rw [List.mem_singleton.1 hu]; exact hF
            case measure => omega
          · have hq1 : ((cB false t : Int) == (cB false key.data.toList : Int)) = false := beq_eq_false_iff_ne.2 (fun e => hc (Int.ofNat_inj.1 e))
            go_wp2_with fail
            refine HNP.out.mono ?_
            rintro e w5 ⟨⟨m5, rfl⟩, hb5⟩
            have HB5 := Lib.hid (hB.out.trans (Below.low hb5 hB.out.size))
            clear hb5
            go_wp2_with fail
            go_roundg k
            case rel =>
              refine ⟨i + 1, by omega, by simp, HB5, ?_⟩
              show ∀ u ∈ o.take (i + 1), _
              rw [HTK.out]
              intro u hu
              rcases List.mem_append.1 hu with hu | hu
              · exact hN.out u hu
              · rw [List.mem_singleton.1 hu]; exact hF
            case measure => omega
end Go.Proofs.YtpdnjgbcnnjdiaaGreatDoor
