/- impl.Find; the law FnFind answers true. -/
import Derived.Test.YtpdnjgbcnnjdiaaGreatDoorFndD
import Derived.Test.YtpdnjgbcnnjdiaaGreatDoorRouted
namespace Go.Proofs.YtpdnjgbcnnjdiaaGreatDoor
open Go Go.RowKit Go.Maps Go.Proofs.YtpdnjgbcnnjdiaaGreatDoorW.PrintWords Go.Proofs.YtpdnjgbcnnjdiaaGreatDoor.PFnFind
set_option linter.unusedVariables false
set_option linter.unusedSimpArgs false

/-- What impl.Find answers. -/
def IAns (l : List ByteArray) (p k : ByteArray) (ok : Bool) : Prop :=
  (ok = true ∧ k ∈ l ∧ (k = p ∨ (p ∉ l ∧ nF (bys k) = nF (bys p)))) ∨ (ok = false ∧ p ∉ l ∧ ∀ t ∈ l, nF (bys t) ≠ nF (bys p))
theorem bys_mem {l : List ByteArray} {x : ByteArray} : bys x ∈ l.map bys ↔ x ∈ l := by
  constructor
  · intro h
    obtain ⟨y, hy, he⟩ := List.mem_map.1 h
    rw [← bys_inj he]
    exact hy
  · exact fun h => List.mem_map.2 ⟨x, h, rfl⟩
theorem plain_ascii {s : ByteArray} (h : Plain s) : ∀ b ∈ bys s, b.toNat < 128 := fun b hb => by have := h.2 b hb; omega
theorem refCell {w : World} {b : Nat} {s : ByteArray} {t : TypeId} (h : w.heap[b]? = some (.cells #[.string s] t (0, 0))) : w.cell? ⟨b, 0, none⟩ = some (.string s) := by
  simp [World.cell?, h]

set_option maxHeartbeats 2000000 in
set_option maxRecDepth 100000 in
theorem implFind (A : Option Addr) (c : Nat) (l : List ByteArray) (p : ByteArray) (w : World) (hr : Kd.C Kd.string w A l.length l) (hl : l.length ≤ 12) (hs : ∀ x ∈ l, Plain x) (hp : Plain p) :
    Calls Tryz.prog 8 #[.slice A l.length c, .string p] w fun e w' => (∃ k ok, e = .returned (.tuple #[.string k, .bool ok]) ∧ IAns l p k ok) ∧ Below w.heap.size w w' := by
  have HIP := Lib.hid (implPaths A c l w (fun W hW k hk => by
    obtain ⟨ad, h1, h2⟩ := Kd.at_string (Kd.C_below hr hW) (k : Int) (by omega) (by omega)
    refine ⟨ad, h1, ?_⟩
    rw [show ((k : Nat) : Int).toNat = k from by simp, show rdOf ByteArray.empty l (k : Int) = l[k] from by simp [rdOf, List.getD, hk]] at h2
    exact h2) (by omega) (fun x hx => by have := (hs x hx).1; unfold maxLen; omega))
  have HS := Lib.hid hs
  have HPP := Lib.hid hp
  clear hr hs hp
  go_enter Tryz.func8, Tryz.ntmps8
  go_wp2_with fail
  refine HIP.out.mono ?_
  rintro e w1 ⟨pb, mb, D, rfl, ho, hm, hP, hpb, hmb, hb⟩
  have HB := Lib.hid hb
  have hb1 := hb.size
  have HPF := Lib.hid (pathsFind pb mb l.length w.heap.size D (l.map bys) p w1 ho hm hP (by omega) (fun t ht => by
    obtain ⟨x, hx, rfl⟩ := List.mem_map.1 ht
    exact ⟨by have := (HS.out x hx).1; show x.data.toList.length ≤ 100; rw [size_list]; omega, plain_ascii (HS.out x hx)⟩) (by have := HPP.out.1; omega) (plain_ascii HPP.out))
  clear ho hm hP hb
  go_wp2_with fail
  refine HPF.out.mono ?_
  rintro e w2 ⟨⟨v, rfl, hA⟩, hb2⟩
  have HB2 := Lib.hid (HB.out.trans (hb2.mono hb1))
  clear hb2 HPF
  rcases hA with ⟨rfl, h1, h2⟩ | ⟨b, t, rfl, hbk, h3, h4⟩
  · go_wp2_with fail
    go_ret2
    exact ⟨⟨_, _, rfl, .inr ⟨rfl, fun hm => h1 (bys_mem.2 hm), fun t ht => h2 (bys t) (bys_mem.2 ht)⟩⟩, HB2.out⟩
  · have hcell := refCell hbk
    clear hbk
    go_wp2_with fail
    go_ret2
    obtain ⟨x, hx, rfl⟩ := List.mem_map.1 h3
    refine ⟨⟨x, true, by rw [← mkS_self x]; rfl, .inl ⟨rfl, hx, ?_⟩⟩, HB2.out⟩
    rcases h4 with h4 | ⟨h4, h5⟩
    · exact .inl (bys_inj h4)
    · exact .inr ⟨fun hm => h4 (bys_mem.2 hm), h5⟩

/-- What both answer is the same. -/
theorem find_law {l : List ByteArray} {p k : ByteArray} {ok : Bool} {r : ByteArray × Bool × Int} (h1 : FinF l p r) (h2 : IAns l p k ok) : ok = r.2.1 ∧ (ok = true → k = r.1) := by
  rcases h1 with ⟨a1, a2, a3⟩ | ⟨a1, aP, aL, ⟨a2, a3, a4, a5⟩ | ⟨a2, a3⟩⟩
  · rcases h2 with ⟨b1, b2, b3⟩ | ⟨b1, b2, b3⟩
    · refine ⟨by rw [b1, a3], fun _ => ?_⟩
      rcases b3 with b3 | ⟨b3, _⟩
      · rw [b3, a2]
      · exact absurd a1 b3
    · exact absurd a1 b2
  · rcases h2 with ⟨b1, b2, b3⟩ | ⟨b1, b2, b3⟩
    · refine ⟨by rw [b1, a2], fun _ => ?_⟩
      rcases b3 with b3 | ⟨_, b3⟩
      · rw [b3] at b2; exact absurd b2 a1
      · by_cases e : k = r.1
        · exact e
        · exact absurd (nF_sl (aL k b2) aP b3) (a5 k b2 e)
    · exact absurd (pp_nF (aL _ a3) aP a4) (b3 _ a3)
  · rcases h2 with ⟨b1, b2, b3⟩ | ⟨b1, b2, b3⟩
    · rcases b3 with b3 | ⟨_, b3⟩
      · rw [b3] at b2; exact absurd b2 a1
      · exact absurd (nF_sl (aL k b2) aP b3) (a3 k b2)
    · exact ⟨by rw [b1, a2], fun e => by rw [b1] at e; cases e⟩

set_option maxHeartbeats 2000000 in
set_option maxRecDepth 10000 in
theorem findLaw (A : Option Addr) (c : Nat) (l : List ByteArray) (path : ByteArray) (w : World) (hr : Kd.C Kd.string w A l.length l) (hc : l.length ≤ c) (hTab : Hid (∀ W, Below w.heap.size w W → Lib.TabIs Tryz.prog W "strings.asciiSpace" .u8 Lib.asciiSpaceTab)) :
    Calls Tryz.prog 3 #[.slice A l.length c, .string path] w fun e w' => e = .returned (.bool true) ∧ Below w.heap.size w w' := by
  obtain ⟨kz, rz, hz, hzt⟩ := zz3_f l
  have HZ := Lib.hid (laws_zzFits3.calls kz A c l rz w hr hc hz)
  have HR := Lib.hid hr
  clear hz hr
  cases rz with
  | false =>
    clear hzt
    go_enter Tryz.func3, Tryz.ntmps3
    go_wp2_with fail
    refine HZ.out.mono ?_
    rintro e w1 ⟨rfl, hd1⟩
    have HB := Lib.hid (Drawn0.below hd1)
    clear hd1
    go_wp2_with fail
    go_ret
    exact ⟨rfl, HB.out⟩
  | true =>
    obtain ⟨hl31, hx31⟩ := hzt rfl
    clear hzt
    by_cases hbig : path.size ≤ 2147483647
    · obtain ⟨kp, rp, hp, hpt⟩ := paths_f l hl31 hx31
      have HP := Lib.hid (fun (W : World) (hb : Below w.heap.size w W) => laws_paths.calls kp A c l rp W (Kd.C_below HR.out hb) hc hp)
      have HPL := Lib.hid (fun W => laws_plain.calls _ path _ W (plain_f path hbig (path.size + 1) (Nat.lt_succ_self _)))
      clear hp hx31
      cases rp with
      | false =>
        clear hpt
        go_enter Tryz.func3, Tryz.ntmps3
        go_wp2_with fail
        refine HZ.out.mono ?_
        rintro e w1 ⟨rfl, hd1⟩
        have HB := Lib.hid (Drawn0.below hd1)
        clear hd1
        go_wp2_with fail
        refine (HP.out _ HB.out).mono ?_
        rintro e w2 ⟨rfl, hd2⟩
        have HB2 := Lib.hid (HB.out.trans ((Drawn0.below hd2).mono HB.out.size))
        clear hd2
        go_wp2_with fail
        go_ret
        exact ⟨rfl, HB2.out⟩
      | true =>
        obtain ⟨hl12, hpl⟩ := hpt rfl
        have HLP := Lib.hid hpl
        clear hpt hpl
        by_cases hpp : Plain path
        · have HPP := Lib.hid hpp
          rw [show decide (Plain path) = true from by simpa using hpp] at HPL
          obtain ⟨r, hrf, hrt⟩ := find_f l path (fun x hx => by have := (HLP.out x hx).1; omega) (by omega) (by have := hpp.1; omega) 400000 (by omega)
          obtain ⟨r1, r2, r3⟩ := r
          have HSM := Lib.hid (fun (W : World) (hb : Below w.heap.size w W) => spec_Find.calls 400000 A c l path r1 r2 r3 W (Kd.C_below HR.out hb) hc hrf)
          have HRT := Lib.hid hrt
          clear hrf hrt hpp
          go_enter Tryz.func3, Tryz.ntmps3
          go_wp2_with fail
          refine HZ.out.mono ?_
          rintro e w1 ⟨rfl, hd1⟩
          have HB := Lib.hid (Drawn0.below hd1)
          clear hd1
          go_wp2_with fail
          refine (HP.out _ HB.out).mono ?_
          rintro e w2 ⟨rfl, hd2⟩
          have HB2 := Lib.hid (HB.out.trans ((Drawn0.below hd2).mono HB.out.size))
          clear hd2
          go_wp2_with fail
          refine (HPL.out _).mono ?_
          rintro e w3 ⟨rfl, hd3⟩
          have HB3 := Lib.hid (HB2.out.trans ((Drawn0.below hd3).mono HB2.out.size))
          clear hd3
          go_wp2_with fail
          refine (HSM.out _ HB3.out).mono ?_
          rintro e w4 ⟨rfl, hb4⟩
          have HB4 := Lib.hid (HB3.out.trans (hb4.mono HB3.out.size))
          clear hb4
          by_cases h1 : r3 = 1
          · subst h1
            have hF : FinF l path (r1, r2, 1) := HRT.out rfl
            have HF := Lib.hid hF
            have HIM := Lib.hid (fun (W : World) (hW : Below w.heap.size w W) => implFind A c l path W (Kd.C_below HR.out hW) hl12 HLP.out HPP.out)
            have HRO := Lib.hid (fun (W : World) (hW : Below w.heap.size w W) => routed W (show Hid _ from fun V hV => hTab.out V (hW.trans (hV.mono hW.size))))
            clear hF
            go_wp2_with fail
            refine (HIM.out _ HB4.out).mono ?_
            rintro e w5 ⟨⟨k, ok, rfl, hA⟩, hb5⟩
            have HB5 := Lib.hid (HB4.out.trans (hb5.mono HB4.out.size))
            obtain ⟨q1, q2⟩ := find_law HF.out hA
            change ok = r2 at q1
            change ok = true → k = r1 at q2
            subst q1
            clear hb5 hA
            cases ok with
            | false =>
              clear q2
              go_wp2_with fail
              refine (HRO.out _ HB5.out).mono ?_
              rintro e w6 ⟨rfl, hb6⟩
              have HB6 := Lib.hid (HB5.out.trans (hb6.mono HB5.out.size))
              clear hb6
              go_wp2_with fail
              go_ret
              exact ⟨rfl, HB6.out⟩
            | true =>
              have hk := q2 rfl
              subst hk
              clear q2
              go_wp2_with fail
              refine (HRO.out _ HB5.out).mono ?_
              rintro e w6 ⟨rfl, hb6⟩
              have HB6 := Lib.hid (HB5.out.trans (hb6.mono HB5.out.size))
              clear hb6
              go_wp2_with fail
              go_ret
              exact ⟨rfl, HB6.out⟩
          · go_wp2_with fail
            go_ret
            exact ⟨rfl, HB4.out⟩
        · rw [show decide (Plain path) = false from by simpa using hpp] at HPL
          clear hpp
          go_enter Tryz.func3, Tryz.ntmps3
          go_wp2_with fail
          refine HZ.out.mono ?_
          rintro e w1 ⟨rfl, hd1⟩
          have HB := Lib.hid (Drawn0.below hd1)
          clear hd1
          go_wp2_with fail
          refine (HP.out _ HB.out).mono ?_
          rintro e w2 ⟨rfl, hd2⟩
          have HB2 := Lib.hid (HB.out.trans ((Drawn0.below hd2).mono HB.out.size))
          clear hd2
          go_wp2_with fail
          refine (HPL.out _).mono ?_
          rintro e w3 ⟨rfl, hd3⟩
          have HB3 := Lib.hid (HB2.out.trans ((Drawn0.below hd3).mono HB2.out.size))
          clear hd3
          go_wp2_with fail
          go_ret
          exact ⟨rfl, HB3.out⟩
    · go_enter Tryz.func3, Tryz.ntmps3
      go_wp2_with fail
      refine HZ.out.mono ?_
      rintro e w1 ⟨rfl, hd1⟩
      have HB := Lib.hid (Drawn0.below hd1)
      clear hd1
      go_wp2_with fail
      go_ret
      exact ⟨rfl, HB.out⟩
end Go.Proofs.YtpdnjgbcnnjdiaaGreatDoor
