/- (*Node).matchRemaining, over a trie that lies in memory. -/
import Derived.Test.YtpdnjgbcnnjdiaaGreatDoorSort
import Derived.Lib.Bytealg
namespace Go.Proofs.YtpdnjgbcnnjdiaaGreatDoor
open Go Go.RowKit
set_option linter.unusedVariables false
set_option linter.unusedSimpArgs false

theorem infoStr : (Tryz.prog.info? 9).map (fun i => (i.zero, i.size, i.bytes)) = some (some (.string ⟨#[]⟩), 1, 16) := by kernel_rfl

/-- What a call of matchRemaining leaves: its answer; the values that it was handed stand. -/
def RemPost (M : Mem) (B1 : Nat) (v : Value) (vs : List Bs) (w : World) : Option (Path × List Bs) → Ending → World → Prop
  | none => fun e w' => e = .returned (.tuple #[.pointer none, .slice none 0 0]) ∧ w.grownBy w' v.ownBlock ∧ w'.ownsRow B1 9 1 v vs.length (strs vs)
  | some (q, ys) => fun e w' => ∃ v', e = .returned (.tuple #[.pointer (some ⟨M.nb q, 0, none⟩), v']) ∧ w.grownBy w' v.ownBlock ∧ w'.ownsRow B1 9 1 v vs.length (strs vs) ∧ w'.ownsRow B1 9 1 v' ys.length (strs ys)

theorem Rep.grown {w w' : World} {B B1 : Nat} {S : Path → Prop} {V : Path → Option Bs} {M : Mem} {row : Option Nat} (h : Rep w B S V M) (hg : w.grownBy w' row) (hr : ∀ b, row = some b → B1 ≤ b) (hB : ∀ b, (M.own b).isSome → b < B1) : Rep w' B S V M :=
  h.keep hg.size (fun b ho => hg.block b (h.lt b ho) (fun e => by have := hr b e.symm; have := hB b ho; omega))

theorem own_base {w : World} {base : Nat} {e : TypeId} {size : Nat} {v : Value} {n : Nat} {xs : List Value} (h : w.ownsRow base e size v n xs) : ∀ b, v.ownBlock = some b → base ≤ b := fun b hb => (h.lt b hb).1

/-- Behind an append, and a call that was handed what it gave. -/
theorem after_append {w w1 w2 : World} {base : Nat} {v v1 : Value} {n n1 : Nat} {xs ys : List Value} {N : Nat} (hN : w.heap.size ≤ N) (hw : w.ownsRow base 9 1 v n xs) (hg : w.grownBy w1 v.ownBlock) (h4 : w1.ownsRow base 9 1 v n xs) (h2 : w1.ownsRow base 9 1 v1 n1 (xs ++ ys))
    (h5 : (w.grownBy w1 none ∧ ∃ b, v1.ownBlock = some b ∧ N ≤ b) ∨ (∃ b, v.ownBlock = some b ∧ v1.ownBlock = some b)) (g2 : w1.grownBy w2 v1.ownBlock) (o2 : w2.ownsRow base 9 1 v1 n1 (xs ++ ys)) : w.grownBy w2 v.ownBlock ∧ w2.ownsRow base 9 1 v n xs := by
  rcases h5 with ⟨_, b, hb, hlt⟩ | ⟨b, hb, hb1⟩
  · refine ⟨grownBy_new hg g2 (fun b' hb' => by rw [hb] at hb'; injection hb' with e; subst e; exact .inl (Nat.le_trans hN hlt)), ?_⟩
    cases hv : v.ownBlock with
    | none => exact h4.kept g2 (.inl hv)
    | some c =>
      refine h4.kept g2 (.inr ?_)
      rw [hv, hb]
      intro e
      injection e with e
      subst e
      have := (hw.lt _ hv).2
      omega
  · refine ⟨grownBy_new hg g2 (fun b' hb' => by rw [hb1] at hb'; injection hb' with e; subst e; exact .inr hb), own_back (by decide) h4 h2 o2 ⟨b, hb, hb1⟩⟩

theorem indexByte_go (l : Bs) : (Lib.indexByte l 47 = -1 ∧ l.takeWhile (· != 47) = l ∧ l.dropWhile (· != 47) = []) ∨ ∃ i : Nat, i < l.length ∧ Lib.indexByte l 47 = i ∧ l.takeWhile (· != 47) = l.take i ∧ l.dropWhile (· != 47) = l.drop i := by
  induction l with
  | nil => exact .inl ⟨rfl, rfl, rfl⟩
  | cons b l ih =>
    by_cases hb : b = 47
    · subst hb
      exact .inr ⟨0, by simp, by simp [Lib.indexByte], by simp, by simp⟩
    · have hb1 : (b == 47) = false := by simpa using hb
      have hb2 : (b != 47) = true := by simpa using hb
      rcases ih with ⟨h1, h2, h3⟩ | ⟨i, h0, h1, h2, h3⟩
      · refine .inl ⟨by simp [Lib.indexByte, hb1, h1], ?_, ?_⟩
        · rw [List.takeWhile_cons, hb2]; simp [h2]
        · rw [List.dropWhile_cons, hb2]; simp [h3]
      · refine .inr ⟨i + 1, by simp; omega, ?_, ?_, ?_⟩
        · have : ¬ ((i : Int) = -1) := by omega
          simp [Lib.indexByte, hb1, h1, this]
        · rw [List.takeWhile_cons, hb2]; simp [h2]
        · rw [List.dropWhile_cons, hb2]; simp [h3]

theorem new_cell (w : World) (o : Obj) (v : Value) (T : TypeId) : ∀ j u, [v][j]? = some u → ((w.alloc o).alloc (.cells #[v] T)).cell? ((⟨w.heap.size + 1, 0, none⟩ : Addr).add j) = some u := by
  intro j u hu
  have := cell_one_new (w.alloc o) v T j u hu
  simpa using this
theorem str_one (x : ByteArray) : ∀ u ∈ [Value.string x], u.oneCell' = true := by
  intro u hu
  simp at hu
  subst hu
  rfl
theorem base2 {B : Nat} {w : World} (h : B ≤ w.heap.size) (o o' : Obj) : B ≤ ((w.alloc o).alloc o').heap.size := by simp; omega
theorem le16 : 16 ≤ 1000 := by decide

theorem heap_two (w : World) (o o' : Obj) : ((w.alloc o).alloc o').heap[w.heap.size]? = some o := by
  show ((w.heap.push o).push o')[w.heap.size]? = _
  rw [Array.getElem?_push, if_neg (by simp), Array.getElem?_push, if_pos rfl]
theorem lt_two (w : World) (o o' : Obj) : w.heap.size < ((w.alloc o).alloc o').heap.size := by simp; omega
/-- The loop's own copy of the suffix, behind the append. -/
theorem suf_kept {w w1 : World} {cs : Array Value} {T : TypeId} {o' : Obj} {v : Value} {base : Nat} {e : TypeId} {size n : Nat} {xs : List Value} (hw : w.ownsRow base e size v n xs) (hg : ((w.alloc (.cells cs T)).alloc o').grownBy w1 v.ownBlock) (i : Nat) : w1.cell? ⟨w.heap.size, i, none⟩ = cs[i]? := by
  have h := hg.block w.heap.size (lt_two _ _ _) (fun hb => by have := (hw.lt _ hb.symm).2; omega)
  rw [heap_two] at h
  simp [World.cell?, h]

/-- Where the next slash stands. -/
theorem index_slash (r : ByteArray) : ∃ (ix : Int) (j : Nat), (∀ W : World, Calls Tryz.prog 31 #[.string r, .int .u8 47] W fun e w' => e = .returned (.int .i64 ix) ∧ W = w') ∧ j ≤ r.size ∧ ((ix = -1 ∧ j = r.size) ∨ (ix = (j : Int) ∧ j < r.size)) ∧ r.data.toList.takeWhile (· != 47) = r.data.toList.take j ∧ r.data.toList.dropWhile (· != 47) = r.data.toList.drop j := by
  have hc := fun W : World => (Tryz.strings_IndexByte r 47 W).mono fun e w' (h : e = .returned (.int .i64 (Lib.indexByte r.data.toList 47)) ∧ w' = W) => (show e = .returned (.int .i64 (Lib.indexByte r.data.toList 47)) ∧ W = w' from ⟨h.1, h.2.symm⟩)
  rcases indexByte_go r.data.toList with ⟨h1, h2, h3⟩ | ⟨i, h0, h1, h2, h3⟩
  · rw [h1] at hc
    refine ⟨-1, r.size, hc, Nat.le_refl _, .inl ⟨rfl, rfl⟩, ?_, ?_⟩
    · rw [h2, List.take_of_length_le (by rw [size_list]; exact Nat.le_refl _)]
    · rw [h3, List.drop_of_length_le (by rw [size_list]; exact Nat.le_refl _)]
  · rw [h1] at hc
    rw [size_list] at h0
    exact ⟨i, i, hc, Nat.le_of_lt h0, .inr ⟨rfl, h0⟩, h2, h3⟩

set_option maxHeartbeats 4000000 in
set_option maxRecDepth 100000 in
theorem remain (B B1 : Nat) (S : Path → Prop) (V : Path → Option Bs) (M : Mem) (hB1 : ∀ b, (M.own b).isSome → b < B1) (HKL : Hid (∀ p (t : Tok), t ∈ M.kids p → t.2.length ≤ 1000)) : ∀ (n : Nat) (p : Path), S p → (∀ q, S (p ++ q) → q.length < n) → ∀ (r : ByteArray) (v : Value) (vs : List Bs) (w : World), Rep w B S V M → B1 ≤ w.heap.size → w.ownsRow B1 9 1 v vs.length (strs vs) → r.size ≤ 1000 → vs.length + n ≤ 1000 →
    Calls Tryz.prog 39 #[.pointer (some ⟨M.nb p, 0, none⟩), .string r, v] w (RemPost M B1 v vs w (look M.kids V n p r.data.toList vs)) := by
  intro n
  induction n with
  | zero => intro p hp hd; have := hd [] (by simpa using hp); simp at this
  | succ n ih =>
    intro p hp hd r v vs w hR hB hown hr hn
    obtain ⟨c0, c1, c2⟩ := hR.cell hp
    by_cases hA : r.data.toList = [] ∧ (V p).isSome
    · obtain ⟨s, hs⟩ := Option.isSome_iff_exists.1 hA.2
      have hl : look M.kids V (n + 1) p r.data.toList vs = some (p, vs) := by simp only [look]; rw [if_pos hA]
      rw [hl]
      have hz : ((r.size : Int) == 0) = true := by have := size_list r; rw [hA.1] at this; simp at this; simp [← this]
      rw [hs] at c1
      simp only [valV] at c1
      have HO := Lib.hid hown
      have HP : RemPost M B1 v vs w (some (p, vs)) (.returned (.tuple #[.pointer (some ⟨M.nb p, 0, none⟩), v])) w := ⟨v, rfl, grownBy_refl _ _, hown, hown⟩
      clear hA hR ih hl hown hd hs
      generalize RemPost M B1 v vs w (some (p, vs)) = Q at HP ⊢
      go_enter Tryz.func39, Tryz.ntmps39
      go_wp2_with fail
      exact HP
    · have hl : look M.kids V (n + 1) p r.data.toList vs = (M.kids p).findSome? (tryTok (look M.kids V n) V p r.data.toList vs) := by simp only [look]; rw [if_neg hA]
      rw [hl]
      suffices hsuff : ∀ Q : Ending → World → Prop, Hid (∀ e w', RemPost M B1 v vs w ((M.kids p).findSome? (tryTok (look M.kids V n) V p r.data.toList vs)) e w' → Q e w') → Calls Tryz.prog 39 #[.pointer (some ⟨M.nb p, 0, none⟩), .string r, v] w Q from hsuff _ (fun _ _ h => h)
      intro Q HQ
      have hz : ((r.size : Int) == 0) = false ∨ (((r.size : Int) == 0) = true ∧ V p = none) := by
        by_cases h0 : r.data.toList = []
        · right
          refine ⟨by have := size_list r; rw [h0] at this; simp at this; simp [← this], ?_⟩
          cases hv : V p with
          | none => rfl
          | some s => exact absurd ⟨h0, by rw [hv]; rfl⟩ hA
        · left
          have : r.size ≠ 0 := by intro h; apply h0; apply List.eq_nil_of_length_eq_zero; rw [size_list]; exact h
          simp; intro h; rw [h] at this; exact this rfl
      obtain ⟨a, cap, hsv, hml, hcells⟩ := hR.suf1 hp
      rw [hsv] at c2
      have HA := Lib.hid hA
      have HR := Lib.hid hR
      have HO := Lib.hid hown
      have HD := Lib.hid hd
      have IH := Lib.hid ih
      have HB1 := Lib.hid hB1
      have HSV := Lib.hid hsv
      have HP := Lib.hid hp
      have hml' : (M.kids p).length ≤ 9223372036854775807 := by unfold maxLen at hml; omega
      clear hA hR hown hd ih hB1 hcells hp hl hsv hml
      rcases hz with hz | ⟨hz, hv⟩
      · go_enter Tryz.func39, Tryz.ntmps39
        go_wp2_with fail
        go_loopw [35] (fun i wr => ∃ k : Nat, k ≤ (M.kids p).length ∧ i = .int .i64 k ∧ Hid (((M.kids p).take k).findSome? (tryTok (look M.kids V n) V p r.data.toList vs) = none) ∧ Hid (w.grownBy wr v.ownBlock) ∧ Hid (wr.ownsRow B1 9 1 v vs.length (strs vs))) (fun i _ => (M.kids p).length - (intOf i).toNat)
        case atStart => exact ⟨0, Nat.zero_le _, rfl, rfl, grownBy_refl _ _, HO⟩
        case round =>
          obtain ⟨k, hk, rfl, HN, HG, HW⟩ := hrel
          by_cases hlt : k < (M.kids p).length
          · obtain ⟨⟨kd, pt⟩, ht⟩ : ∃ t, (M.kids p)[k]? = some t := ⟨_, List.getElem?_eq_getElem hlt⟩
            have hRr := HR.out.grown HG.out (own_base HO.out) HB1.out
            obtain ⟨g, rfl, hgo, d0, d1, d2⟩ := hRr.sufAt HP.out HSV.out k (kd, pt) ht
            have hS : S (p ++ [(kd, pt)]) := (HR.out.kid p _ HP.out).1 (List.mem_of_getElem? ht)
            have hcount : ∀ q, S ((p ++ [(kd, pt)]) ++ q) → q.length < n := fun q hq => by
              have := HD.out ((kd, pt) :: q) (by simpa using hq)
              simp only [List.length_cons] at this
              omega
            have hnext : tryTok (look M.kids V n) V p r.data.toList vs (kd, pt) = none → ((M.kids p).take (k + 1)).findSome? (tryTok (look M.kids V n) V p r.data.toList vs) = none := fun h0 => by
              rw [List.take_add_one, ht]
              simp only [Option.toList, List.findSome?_append, HN.out, List.findSome?_cons, h0]
              rfl
            have hfound : ∀ y, tryTok (look M.kids V n) V p r.data.toList vs (kd, pt) = some y → (M.kids p).findSome? (tryTok (look M.kids V n) V p r.data.toList vs) = some y := fun y hy => by
              rw [← List.take_append_drop k (M.kids p), List.findSome?_append, HN.out]
              have hd : (M.kids p).drop k = (kd, pt) :: (M.kids p).drop (k + 1) := by
                rw [List.drop_eq_getElem_cons hlt]
                congr 1
                rw [List.getElem?_eq_getElem hlt] at ht
                injection ht
              rw [hd, List.findSome?_cons, hy]
              rfl
            have ihc := fun (r' : ByteArray) (v' : Value) (vs' : List Bs) (W : World) => IH.out (p ++ [(kd, pt)]) hS hcount r' v' vs' W
            have HNX := Lib.hid hnext
            have HF := Lib.hid hfound
            have IHC := Lib.hid ihc
            have HRr := Lib.hid hRr
            have HS := Lib.hid hS
            have HT0 := Lib.hid ht
            clear hnext hfound ihc hRr hcount hS ht hgo
            by_cases hk0 : kd = 0
            · subst hk0
              by_cases hpre : pt <+: r.data.toList
              · have hpl : (mkS pt).size ≤ r.size := by
                  have := hpre.length_le
                  rw [size_list] at this
                  rw [mkS_size]; exact this
                have hps : decide ((mkS pt).data.toList <+: r.data.toList) = true := by rw [mkS_toList]; simpa using hpre
                have HE : Hid ((r.extract (mkS pt).size r.size).data.toList = r.data.toList.drop pt.length) := by
                  show _ = _
                  rw [ext_list, List.take_of_length_le (by rw [List.length_drop, size_list]; exact Nat.le_refl _), mkS_size]
                have HT : Hid (tryTok (look M.kids V n) V p r.data.toList vs (0, pt) = look M.kids V n (p ++ [(0, pt)]) (r.data.toList.drop pt.length) vs) := by
                  show _ = _
                  simp only [tryTok, if_true]
                  rw [if_pos hpre]
                have HPR := Lib.hid hps
                clear hpre hps
                go_wp2_with (go_at_call 47; refine (hasPrefix _ _ _ (by omega) (by omega) true HPR.out).mono ?_; rintro e w' ⟨rfl, rfl⟩)
                refine (IHC.out (r.extract (mkS pt).size r.size) v vs _ (HRr.out.alloc _) (by simp; have := HG.out.size; omega) (HW.out.alloc _) (by simp; omega) (by omega)).mono ?_
                intro e w2 hpost
                rw [HE.out, ← HT.out] at hpost
                clear HT HE HPR
                cases hres : tryTok (look M.kids V n) V p r.data.toList vs (0, pt) with
                | none =>
                  rw [hres] at hpost
                  obtain ⟨rfl, hg2, ho2⟩ := hpost
                  have hG2 := grownBy_trans (grownBy_alloc' HG.out _) hg2
                  have hO2 := ho2
                  have HN2 := Lib.hid (HNX.out hres)
                  have HG2 := Lib.hid hG2
                  have HO2 := Lib.hid hO2
                  clear hres hg2 ho2 hG2 hO2
                  go_wp2_with fail
                  go_roundw
                  case rel => exact ⟨k + 1, by omega, by go_num, HN2.out, HG2.out, HO2.out⟩
                  case measure => simp [intOf]; omega
                | some y =>
                  obtain ⟨q, ys⟩ := y
                  rw [hres] at hpost
                  obtain ⟨v', rfl, hg2, ho2, ho3⟩ := hpost
                  have hG2 := grownBy_trans (grownBy_alloc' HG.out _) hg2
                  have hO2 := ho2
                  obtain ⟨hvq, hsq⟩ := tryTok_valued (look_valued M.kids V S (fun p t hp ht => (HR.out.kid p t hp).1 ht) n) HS.out hres
                  obtain ⟨sq, hsq2⟩ := Option.isSome_iff_exists.1 hvq
                  obtain ⟨_, e1, _⟩ := (HR.out.grown hG2 (own_base HO.out) HB1.out).cell hsq
                  rw [hsq2] at e1
                  simp only [valV] at e1
                  have hfin : RemPost M B1 v vs w ((M.kids p).findSome? (tryTok (look M.kids V n) V p r.data.toList vs)) (.returned (.tuple #[.pointer (some ⟨M.nb q, 0, none⟩), v'])) w2 := by
                    rw [HF.out _ hres]
                    exact ⟨v', rfl, hG2, hO2, ho3⟩
                  have HFIN := Lib.hid (HQ.out _ _ hfin)
                  clear hfin hres hvq hsq hsq2 hG2 hg2 ho2 ho3 hO2
                  go_wp2_with fail
                  exact HFIN.out
              · have hps : decide ((mkS pt).data.toList <+: r.data.toList) = false := by rw [mkS_toList]; simpa using hpre
                have HPR := Lib.hid hps
                have hpz : (mkS pt).size ≤ 100000 := by rw [mkS_size]; exact Nat.le_trans (HKL.out _ _ (List.mem_of_getElem? HT0.out)) (by omega)
                have hres : tryTok (look M.kids V n) V p r.data.toList vs (0, pt) = none := by
                  simp only [tryTok, if_true]
                  rw [if_neg hpre, if_neg]
                  intro h0
                  have hz2 : ((r.size : Int) == 0) = true := by have := size_list r; rw [h0.1] at this; simp at this; simp [← this]
                  rw [hz] at hz2
                  cases hz2
                have HN2 := Lib.hid (HNX.out hres)
                have HG2 := Lib.hid (grownBy_alloc' HG.out (.cells #[.int .i64 0, .string (mkS pt), .pointer (some ⟨M.nb (p ++ [(0, pt)]), 0, none⟩)] 101))
                have HO2 := Lib.hid (HW.out.alloc (.cells #[.int .i64 0, .string (mkS pt), .pointer (some ⟨M.nb (p ++ [(0, pt)]), 0, none⟩)] 101))
                clear hres
                clear hpre hps
                go_wp2_with (go_at_call 47; refine (hasPrefix _ _ _ (by omega) (by omega) false HPR.out).mono ?_; rintro e w' ⟨rfl, rfl⟩)
                go_roundw
                case rel => exact ⟨k + 1, by omega, by go_num, HN2.out, HG2.out, HO2.out⟩
                case measure => simp [intOf]; omega
            · by_cases hk2 : kd = 2
              · subst hk2
                clear hk0
                have HT : Hid (tryTok (look M.kids V n) V p r.data.toList vs (2, pt) = look M.kids V n (p ++ [(2, pt)]) (r.data.toList.dropWhile (· != 47)) (vs ++ [r.data.toList.takeWhile (· != 47)])) := by
                  show _ = _
                  simp [tryTok]
                obtain ⟨i0, hi, hz0, hz1, hz2⟩ := info_parts infoStr
                obtain ⟨ix, j, hix, hj1, hj2, htw, hdw⟩ := index_slash r
                have hx1 : r.extract 0 j = mkS (r.data.toList.takeWhile (· != 47)) := mkS_eq _ _ (by rw [ext_list, htw]; simp)
                have hx2 : (r.extract j r.size).data.toList = r.data.toList.dropWhile (· != 47) := by rw [ext_list, hdw, List.take_of_length_le (by rw [List.length_drop, size_list]; exact Nat.le_refl _)]
                have hS1 : strs vs ++ [.string (r.extract 0 j)] = strs (vs ++ [r.data.toList.takeWhile (· != 47)]) := by rw [hx1]; simp [strs]
                have hS2 : vs.length + 1 = (vs ++ [r.data.toList.takeWhile (· != 47)]).length := by simp
                have HX2 := Lib.hid hx2
                have HS1 := Lib.hid hS1
                have HS2 := Lib.hid hS2
                have HIX := Lib.hid hix
                clear hix htw hdw hx1 hx2 hS1 hS2
                rcases hj2 with ⟨rfl, rfl⟩ | ⟨rfl, hjr⟩
                · rw [show r.extract 0 r.size = r from by simp] at HS1
                  rw [show r.extract r.size r.size = ByteArray.empty from by simp] at HX2
                  have hB3 : B1 ≤ wr.heap.size := by have := HG.out.size; omega
                  have hn3 : vs.length + 1 ≤ 1000000 := by omega
                  go_wp2_with (first | (go_at_call 31; refine (HIX.out _).mono ?_; rintro e w' ⟨rfl, rfl⟩) | (at_builtin; refine wpList_append_keep _ rfl _ _ 22 rfl B1 9 i0 (.string ⟨#[]⟩) 1 16 Tryz.underlying22 hi hz0 hz1 hz2 rfl (by decide) v vs.length (strs vs) rfl ((HW.out.alloc _).alloc _) ⟨wr.heap.size + 1, 0, none⟩ 1 1 (by decide) [.string r] rfl rfl (new_cell _ _ _ _) (str_one _) hn3 le16 (base2 hB3 _ _) ?_))
                  intro v1 w1 a1 a2 a3 a4
                  have e2 := suf_kept HW.out a2 2
                  simp at e2
                  have HWW := Lib.hid ((HW.out.alloc (.cells #[.int .i64 2, .string (mkS pt), .pointer (some ⟨M.nb (p ++ [(2, pt)]), 0, none⟩)] 101)).alloc (.cells #[.string r] 9))
                  have hR1 := (HRr.out.alloc (.cells #[.int .i64 2, .string (mkS pt), .pointer (some ⟨M.nb (p ++ [(2, pt)]), 0, none⟩)] 101)).alloc (.cells #[.string r] 9)
                  have hR2 := hR1.grown a2 (own_base HO.out) HB1.out
                  have hsz := a2.size
                  simp at hsz
                  have hsz2 := HG.out.size
                  have HR2 := Lib.hid hR2
                  have A1 := Lib.hid a1
                  clear hR1 hR2
                  have HA1 : Hid (w1.ownsRow B1 9 1 v1 (vs ++ [r.data.toList.takeWhile (· != 47)]).length (strs (vs ++ [r.data.toList.takeWhile (· != 47)]))) := by
                    show World.ownsRow _ _ _ _ _ _ _
                    rw [← HS1.out, ← HS2.out]
                    exact A1.out
                  have A2 := Lib.hid a2
                  have A3 := Lib.hid a3
                  have A4 := Lib.hid a4
                  clear a1 a2 a3 a4
                  go_wp2_with fail
                  refine (IHC.out ByteArray.empty v1 (vs ++ [r.data.toList.takeWhile (· != 47)]) _ HR2.out (by omega) HA1.out (by simp) (by simp; omega)).mono ?_
                  intro e w2 hpost
                  rw [HX2.out, ← HT.out] at hpost
                  clear HT
                  have a1 := A1.out
                  have a2 := A2.out
                  have a3 := A3.out
                  have a4 := A4.out
                  clear A1 A2 A3 A4 HA1 HR2
                  cases hres : tryTok (look M.kids V n) V p r.data.toList vs (2, pt) with
                  | none =>
                    rw [hres] at hpost
                    obtain ⟨rfl, hg2, ho2⟩ := hpost
                    obtain ⟨hG3, hO2⟩ := after_append (by simp) HWW.out a2 a3 a1 a4 hg2 (by rw [HS1.out, HS2.out]; exact ho2)
                    have hG2 := grownBy_trans (grownBy_alloc' (grownBy_alloc' HG.out _) _) hG3
                    have HN2 := Lib.hid (HNX.out hres)
                    have HG2 := Lib.hid hG2
                    have HO2 := Lib.hid hO2
                    clear hres hg2 ho2 hG2 hO2 hG3 a1 a2 a3 a4
                    go_wp2_with fail
                    go_roundw
                    case rel => exact ⟨k + 1, by omega, by go_num, HN2.out, HG2.out, HO2.out⟩
                    case measure => simp [intOf]; omega
                  | some y =>
                    obtain ⟨q, ys⟩ := y
                    rw [hres] at hpost
                    obtain ⟨v', rfl, hg2, ho2, ho3⟩ := hpost
                    obtain ⟨hG3, hO2⟩ := after_append (by simp) HWW.out a2 a3 a1 a4 hg2 (by rw [HS1.out, HS2.out]; exact ho2)
                    have hG2 := grownBy_trans (grownBy_alloc' (grownBy_alloc' HG.out _) _) hG3
                    obtain ⟨hvq, hsq⟩ := tryTok_valued (look_valued M.kids V S (fun p t hp ht => (HR.out.kid p t hp).1 ht) n) HS.out hres
                    obtain ⟨sq, hsq2⟩ := Option.isSome_iff_exists.1 hvq
                    obtain ⟨_, e1, _⟩ := (HR.out.grown hG2 (own_base HO.out) HB1.out).cell hsq
                    rw [hsq2] at e1
                    simp only [valV] at e1
                    have hfin : RemPost M B1 v vs w ((M.kids p).findSome? (tryTok (look M.kids V n) V p r.data.toList vs)) (.returned (.tuple #[.pointer (some ⟨M.nb q, 0, none⟩), v'])) w2 := by
                      rw [HF.out _ hres]
                      exact ⟨v', rfl, hG2, hO2, ho3⟩
                    have HFIN := Lib.hid (HQ.out _ _ hfin)
                    clear hfin hres hvq hsq hsq2 hG2 hg2 ho2 ho3 hO2 hG3 a1 a2 a3 a4
                    go_wp2_with fail
                    exact HFIN.out

                · have hB3 : B1 ≤ wr.heap.size := by have := HG.out.size; omega
                  have hn3 : vs.length + 1 ≤ 1000000 := by omega
                  go_wp2_with (first | (go_at_call 31; refine (HIX.out _).mono ?_; rintro e w' ⟨rfl, rfl⟩) | (at_builtin; refine wpList_append_keep _ rfl _ _ 22 rfl B1 9 i0 (.string ⟨#[]⟩) 1 16 Tryz.underlying22 hi hz0 hz1 hz2 rfl (by decide) v vs.length (strs vs) rfl ((HW.out.alloc _).alloc _) ⟨wr.heap.size + 1, 0, none⟩ 1 1 (by decide) [.string (r.extract 0 j)] rfl rfl (new_cell _ _ _ _) (str_one _) hn3 le16 (base2 hB3 _ _) ?_))
                  intro v1 w1 a1 a2 a3 a4
                  have e2 := suf_kept HW.out a2 2
                  simp at e2
                  have HWW := Lib.hid ((HW.out.alloc (.cells #[.int .i64 2, .string (mkS pt), .pointer (some ⟨M.nb (p ++ [(2, pt)]), 0, none⟩)] 101)).alloc (.cells #[.string (r.extract 0 j)] 9))
                  have hR1 := (HRr.out.alloc (.cells #[.int .i64 2, .string (mkS pt), .pointer (some ⟨M.nb (p ++ [(2, pt)]), 0, none⟩)] 101)).alloc (.cells #[.string (r.extract 0 j)] 9)
                  have hR2 := hR1.grown a2 (own_base HO.out) HB1.out
                  have hsz := a2.size
                  simp at hsz
                  have hsz2 := HG.out.size
                  have HR2 := Lib.hid hR2
                  have A1 := Lib.hid a1
                  clear hR1 hR2
                  have HA1 : Hid (w1.ownsRow B1 9 1 v1 (vs ++ [r.data.toList.takeWhile (· != 47)]).length (strs (vs ++ [r.data.toList.takeWhile (· != 47)]))) := by
                    show World.ownsRow _ _ _ _ _ _ _
                    rw [← HS1.out, ← HS2.out]
                    exact A1.out
                  have A2 := Lib.hid a2
                  have A3 := Lib.hid a3
                  have A4 := Lib.hid a4
                  clear a1 a2 a3 a4
                  go_wp2_with fail
                  refine (IHC.out (r.extract j r.size) v1 (vs ++ [r.data.toList.takeWhile (· != 47)]) _ HR2.out (by omega) HA1.out (by simp; omega) (by simp; omega)).mono ?_
                  intro e w2 hpost
                  rw [HX2.out, ← HT.out] at hpost
                  clear HT
                  have a1 := A1.out
                  have a2 := A2.out
                  have a3 := A3.out
                  have a4 := A4.out
                  clear A1 A2 A3 A4 HA1 HR2
                  cases hres : tryTok (look M.kids V n) V p r.data.toList vs (2, pt) with
                  | none =>
                    rw [hres] at hpost
                    obtain ⟨rfl, hg2, ho2⟩ := hpost
                    obtain ⟨hG3, hO2⟩ := after_append (by simp) HWW.out a2 a3 a1 a4 hg2 (by rw [HS1.out, HS2.out]; exact ho2)
                    have hG2 := grownBy_trans (grownBy_alloc' (grownBy_alloc' HG.out _) _) hG3
                    have HN2 := Lib.hid (HNX.out hres)
                    have HG2 := Lib.hid hG2
                    have HO2 := Lib.hid hO2
                    clear hres hg2 ho2 hG2 hO2 hG3 a1 a2 a3 a4
                    go_wp2_with fail
                    go_roundw
                    case rel => exact ⟨k + 1, by omega, by go_num, HN2.out, HG2.out, HO2.out⟩
                    case measure => simp [intOf]; omega
                  | some y =>
                    obtain ⟨q, ys⟩ := y
                    rw [hres] at hpost
                    obtain ⟨v', rfl, hg2, ho2, ho3⟩ := hpost
                    obtain ⟨hG3, hO2⟩ := after_append (by simp) HWW.out a2 a3 a1 a4 hg2 (by rw [HS1.out, HS2.out]; exact ho2)
                    have hG2 := grownBy_trans (grownBy_alloc' (grownBy_alloc' HG.out _) _) hG3
                    obtain ⟨hvq, hsq⟩ := tryTok_valued (look_valued M.kids V S (fun p t hp ht => (HR.out.kid p t hp).1 ht) n) HS.out hres
                    obtain ⟨sq, hsq2⟩ := Option.isSome_iff_exists.1 hvq
                    obtain ⟨_, e1, _⟩ := (HR.out.grown hG2 (own_base HO.out) HB1.out).cell hsq
                    rw [hsq2] at e1
                    simp only [valV] at e1
                    have hfin : RemPost M B1 v vs w ((M.kids p).findSome? (tryTok (look M.kids V n) V p r.data.toList vs)) (.returned (.tuple #[.pointer (some ⟨M.nb q, 0, none⟩), v'])) w2 := by
                      rw [HF.out _ hres]
                      exact ⟨v', rfl, hG2, hO2, ho3⟩
                    have HFIN := Lib.hid (HQ.out _ _ hfin)
                    clear hfin hres hvq hsq hsq2 hG2 hg2 ho2 ho3 hO2 hG3 a1 a2 a3 a4
                    go_wp2_with fail
                    exact HFIN.out

              · by_cases hk3 : kd = 3
                · subst hk3
                  clear hk0 hk2
                  have hB4 : True := trivial
                  obtain ⟨i0, hi, hz0, hz1, hz2⟩ := info_parts infoStr
                  have hS1 : strs vs ++ [.string r] = strs (vs ++ [r.data.toList]) := by simp [strs, mkS_self]
                  have HS1 := Lib.hid hS1
                  clear hS1
                  obtain ⟨_, f1, _⟩ := HRr.out.cell HS.out
                  have hR1 := (HRr.out.alloc (.cells #[.int .i64 3, .string (mkS pt), .pointer (some ⟨M.nb (p ++ [(3, pt)]), 0, none⟩)] 101)).alloc (.cells #[.string r] 9)
                  have HR1 := Lib.hid hR1
                  clear hR1
                  cases hvt : V (p ++ [(3, pt)]) with
                  | none =>
                    have hres : tryTok (look M.kids V n) V p r.data.toList vs (3, pt) = none := by simp [tryTok, hvt]
                    have hB3 : B1 ≤ wr.heap.size := by have := HG.out.size; omega
                    have hn3 : vs.length + 1 ≤ 1000000 := by omega
                    go_wp2_with (first | (at_builtin; refine wpList_append_keep _ rfl _ _ 22 rfl B1 9 i0 (.string ⟨#[]⟩) 1 16 Tryz.underlying22 hi hz0 hz1 hz2 rfl (by decide) v vs.length (strs vs) rfl ((HW.out.alloc _).alloc _) ⟨wr.heap.size + 1, 0, none⟩ 1 1 (by decide) [.string (r)] rfl rfl (new_cell _ _ _ _) (str_one _) hn3 le16 (base2 hB3 _ _) ?_))
                    intro v1 w1 a1 a2 a3 a4
                    obtain ⟨_, e1, _⟩ := (HR1.out.grown a2 (own_base HO.out) HB1.out).cell HS.out
                    rw [hvt] at e1
                    simp only [valV] at e1
                    have HN2 := Lib.hid (HNX.out hres)
                    have HG2 := Lib.hid (grownBy_trans (grownBy_alloc' (grownBy_alloc' HG.out _) _) a2)
                    have HO2 := Lib.hid a3
                    have e2 := suf_kept HW.out a2 2
                    simp at e2
                    clear hres a1 a2 a3 a4 hvt f1
                    go_wp2_with fail
                    go_roundw
                    case rel => exact ⟨k + 1, by omega, by go_num, HN2.out, HG2.out, HO2.out⟩
                    case measure => simp [intOf]; omega
                  | some sv =>
                    have hres : tryTok (look M.kids V n) V p r.data.toList vs (3, pt) = some (p ++ [(3, pt)], vs ++ [r.data.toList]) := by simp [tryTok, hvt]
                    have hB3 : B1 ≤ wr.heap.size := by have := HG.out.size; omega
                    have hn3 : vs.length + 1 ≤ 1000000 := by omega
                    go_wp2_with (first | (at_builtin; refine wpList_append_keep _ rfl _ _ 22 rfl B1 9 i0 (.string ⟨#[]⟩) 1 16 Tryz.underlying22 hi hz0 hz1 hz2 rfl (by decide) v vs.length (strs vs) rfl ((HW.out.alloc _).alloc _) ⟨wr.heap.size + 1, 0, none⟩ 1 1 (by decide) [.string (r)] rfl rfl (new_cell _ _ _ _) (str_one _) hn3 le16 (base2 hB3 _ _) ?_))
                    intro v1 w1 a1 a2 a3 a4
                    obtain ⟨_, e1, _⟩ := (HR1.out.grown a2 (own_base HO.out) HB1.out).cell HS.out
                    rw [hvt] at e1
                    simp only [valV] at e1
                    have hG2 := grownBy_trans (grownBy_alloc' (grownBy_alloc' HG.out _) _) a2
                    have hfin : RemPost M B1 v vs w ((M.kids p).findSome? (tryTok (look M.kids V n) V p r.data.toList vs)) (.returned (.tuple #[.pointer (some ⟨M.nb (p ++ [(3, pt)]), 0, none⟩), v1])) w1 := by
                      rw [HF.out _ hres]
                      exact ⟨v1, rfl, hG2, a3, by rw [← HS1.out, List.length_append]; exact a1⟩
                    have HFIN := Lib.hid (HQ.out _ _ hfin)
                    have e2 := suf_kept HW.out a2 2
                    simp at e2
                    clear hfin hres hG2 a1 a2 a3 a4 hvt f1
                    go_wp2_with fail
                    exact HFIN.out
                · have hres : tryTok (look M.kids V n) V p r.data.toList vs (kd, pt) = none := by simp [tryTok, hk0, hk2, hk3]
                  have hb0 : (kd == 0) = false := by simp [hk0]
                  have hb2 : (kd == 2) = false := by simp [hk2]
                  have hb3 : (kd == 3) = false := by simp [hk3]
                  have HN2 := Lib.hid (HNX.out hres)
                  have HG2 := Lib.hid (grownBy_alloc' HG.out (.cells #[.int .i64 kd, .string (mkS pt), .pointer (some ⟨M.nb (p ++ [(kd, pt)]), 0, none⟩)] 101))
                  have HO2 := Lib.hid (HW.out.alloc (.cells #[.int .i64 kd, .string (mkS pt), .pointer (some ⟨M.nb (p ++ [(kd, pt)]), 0, none⟩)] 101))
                  clear hres
                  clear hk0 hk2 hk3
                  go_wp2_with fail
                  go_roundw
                  case rel => exact ⟨k + 1, by omega, by go_num, HN2.out, HG2.out, HO2.out⟩
                  case measure => simp [intOf]; omega
          · have hke : k = (M.kids p).length := by omega
            have hfin : RemPost M B1 v vs w ((M.kids p).findSome? (tryTok (look M.kids V n) V p r.data.toList vs)) (.returned (.tuple #[.pointer none, .slice none 0 0])) wr := by
              have := HN.out
              rw [hke, List.take_length] at this
              rw [this]
              exact ⟨rfl, HG.out, HW.out⟩
            have HFIN := Lib.hid (HQ.out _ _ hfin)
            clear hfin
            subst hke
            go_wp2_with fail
            exact HFIN.out
      · rw [hv] at c1
        simp only [valV] at c1
        clear hv
        go_enter Tryz.func39, Tryz.ntmps39
        go_wp2_with fail
        go_loopw [35] (fun i wr => ∃ k : Nat, k ≤ (M.kids p).length ∧ i = .int .i64 k ∧ Hid (((M.kids p).take k).findSome? (tryTok (look M.kids V n) V p r.data.toList vs) = none) ∧ Hid (w.grownBy wr v.ownBlock) ∧ Hid (wr.ownsRow B1 9 1 v vs.length (strs vs))) (fun i _ => (M.kids p).length - (intOf i).toNat)
        case atStart => exact ⟨0, Nat.zero_le _, rfl, rfl, grownBy_refl _ _, HO⟩
        case round =>
          obtain ⟨k, hk, rfl, HN, HG, HW⟩ := hrel
          by_cases hlt : k < (M.kids p).length
          · obtain ⟨⟨kd, pt⟩, ht⟩ : ∃ t, (M.kids p)[k]? = some t := ⟨_, List.getElem?_eq_getElem hlt⟩
            have hRr := HR.out.grown HG.out (own_base HO.out) HB1.out
            obtain ⟨g, rfl, hgo, d0, d1, d2⟩ := hRr.sufAt HP.out HSV.out k (kd, pt) ht
            have hS : S (p ++ [(kd, pt)]) := (HR.out.kid p _ HP.out).1 (List.mem_of_getElem? ht)
            have hcount : ∀ q, S ((p ++ [(kd, pt)]) ++ q) → q.length < n := fun q hq => by
              have := HD.out ((kd, pt) :: q) (by simpa using hq)
              simp only [List.length_cons] at this
              omega
            have hnext : tryTok (look M.kids V n) V p r.data.toList vs (kd, pt) = none → ((M.kids p).take (k + 1)).findSome? (tryTok (look M.kids V n) V p r.data.toList vs) = none := fun h0 => by
              rw [List.take_add_one, ht]
              simp only [Option.toList, List.findSome?_append, HN.out, List.findSome?_cons, h0]
              rfl
            have hfound : ∀ y, tryTok (look M.kids V n) V p r.data.toList vs (kd, pt) = some y → (M.kids p).findSome? (tryTok (look M.kids V n) V p r.data.toList vs) = some y := fun y hy => by
              rw [← List.take_append_drop k (M.kids p), List.findSome?_append, HN.out]
              have hd : (M.kids p).drop k = (kd, pt) :: (M.kids p).drop (k + 1) := by
                rw [List.drop_eq_getElem_cons hlt]
                congr 1
                rw [List.getElem?_eq_getElem hlt] at ht
                injection ht
              rw [hd, List.findSome?_cons, hy]
              rfl
            have ihc := fun (r' : ByteArray) (v' : Value) (vs' : List Bs) (W : World) => IH.out (p ++ [(kd, pt)]) hS hcount r' v' vs' W
            have HNX := Lib.hid hnext
            have HF := Lib.hid hfound
            have IHC := Lib.hid ihc
            have HRr := Lib.hid hRr
            have HS := Lib.hid hS
            have HT0 := Lib.hid ht
            clear hnext hfound ihc hRr hcount hS ht hgo
            by_cases hk0 : kd = 0
            · subst hk0
              by_cases hpre : pt <+: r.data.toList
              · have hpl : (mkS pt).size ≤ r.size := by
                  have := hpre.length_le
                  rw [size_list] at this
                  rw [mkS_size]; exact this
                have hps : decide ((mkS pt).data.toList <+: r.data.toList) = true := by rw [mkS_toList]; simpa using hpre
                have HE : Hid ((r.extract (mkS pt).size r.size).data.toList = r.data.toList.drop pt.length) := by
                  show _ = _
                  rw [ext_list, List.take_of_length_le (by rw [List.length_drop, size_list]; exact Nat.le_refl _), mkS_size]
                have HT : Hid (tryTok (look M.kids V n) V p r.data.toList vs (0, pt) = look M.kids V n (p ++ [(0, pt)]) (r.data.toList.drop pt.length) vs) := by
                  show _ = _
                  simp only [tryTok, if_true]
                  rw [if_pos hpre]
                have HPR := Lib.hid hps
                clear hpre hps
                go_wp2_with (go_at_call 47; refine (hasPrefix _ _ _ (by omega) (by omega) true HPR.out).mono ?_; rintro e w' ⟨rfl, rfl⟩)
                refine (IHC.out (r.extract (mkS pt).size r.size) v vs _ (HRr.out.alloc _) (by simp; have := HG.out.size; omega) (HW.out.alloc _) (by simp; omega) (by omega)).mono ?_
                intro e w2 hpost
                rw [HE.out, ← HT.out] at hpost
                clear HT HE HPR
                cases hres : tryTok (look M.kids V n) V p r.data.toList vs (0, pt) with
                | none =>
                  rw [hres] at hpost
                  obtain ⟨rfl, hg2, ho2⟩ := hpost
                  have hG2 := grownBy_trans (grownBy_alloc' HG.out _) hg2
                  have hO2 := ho2
                  have HN2 := Lib.hid (HNX.out hres)
                  have HG2 := Lib.hid hG2
                  have HO2 := Lib.hid hO2
                  clear hres hg2 ho2 hG2 hO2
                  go_wp2_with fail
                  go_roundw
                  case rel => exact ⟨k + 1, by omega, by go_num, HN2.out, HG2.out, HO2.out⟩
                  case measure => simp [intOf]; omega
                | some y =>
                  obtain ⟨q, ys⟩ := y
                  rw [hres] at hpost
                  obtain ⟨v', rfl, hg2, ho2, ho3⟩ := hpost
                  have hG2 := grownBy_trans (grownBy_alloc' HG.out _) hg2
                  have hO2 := ho2
                  obtain ⟨hvq, hsq⟩ := tryTok_valued (look_valued M.kids V S (fun p t hp ht => (HR.out.kid p t hp).1 ht) n) HS.out hres
                  obtain ⟨sq, hsq2⟩ := Option.isSome_iff_exists.1 hvq
                  obtain ⟨_, e1, _⟩ := (HR.out.grown hG2 (own_base HO.out) HB1.out).cell hsq
                  rw [hsq2] at e1
                  simp only [valV] at e1
                  have hfin : RemPost M B1 v vs w ((M.kids p).findSome? (tryTok (look M.kids V n) V p r.data.toList vs)) (.returned (.tuple #[.pointer (some ⟨M.nb q, 0, none⟩), v'])) w2 := by
                    rw [HF.out _ hres]
                    exact ⟨v', rfl, hG2, hO2, ho3⟩
                  have HFIN := Lib.hid (HQ.out _ _ hfin)
                  clear hfin hres hvq hsq hsq2 hG2 hg2 ho2 ho3 hO2
                  go_wp2_with fail
                  exact HFIN.out
              · have hps : decide ((mkS pt).data.toList <+: r.data.toList) = false := by rw [mkS_toList]; simpa using hpre
                have HPR := Lib.hid hps
                have hpz : (mkS pt).size ≤ 100000 := by rw [mkS_size]; exact Nat.le_trans (HKL.out _ _ (List.mem_of_getElem? HT0.out)) (by omega)
                have hr0 : r.data.toList = [] := List.eq_nil_of_length_eq_zero (by rw [size_list]; simpa using hz)
                by_cases hsl : pt = [47]
                · have HT : Hid (tryTok (look M.kids V n) V p r.data.toList vs (0, pt) = look M.kids V n (p ++ [(0, pt)]) r.data.toList vs) := by
                    show _ = _
                    simp only [tryTok, if_true]
                    rw [if_neg hpre, if_pos ⟨hr0, hsl⟩]
                  have hb1 : ((mkS pt).toList == [47]) = true := by rw [mkS_toL, hsl]; rfl
                  clear hpre hps hr0 hsl
                  go_wp2_with (go_at_call 47; refine (hasPrefix _ _ _ (by omega) (by omega) false HPR.out).mono ?_; rintro e w' ⟨rfl, rfl⟩)
                  refine (IHC.out r v vs _ (HRr.out.alloc _) (by simp; have := HG.out.size; omega) (HW.out.alloc _) (by omega) (by omega)).mono ?_
                  intro e w2 hpost
                  rw [← HT.out] at hpost
                  clear HT HPR
                  cases hres : tryTok (look M.kids V n) V p r.data.toList vs (0, pt) with
                  | none =>
                    rw [hres] at hpost
                    obtain ⟨rfl, hg2, ho2⟩ := hpost
                    have hG2 := grownBy_trans (grownBy_alloc' HG.out _) hg2
                    have hO2 := ho2
                    have HN2 := Lib.hid (HNX.out hres)
                    have HG2 := Lib.hid hG2
                    have HO2 := Lib.hid hO2
                    clear hres hg2 ho2 hG2 hO2
                    go_wp2_with fail
                    go_roundw
                    case rel => exact ⟨k + 1, by omega, by go_num, HN2.out, HG2.out, HO2.out⟩
                    case measure => simp [intOf]; omega
                  | some y =>
                    obtain ⟨q, ys⟩ := y
                    rw [hres] at hpost
                    obtain ⟨v', rfl, hg2, ho2, ho3⟩ := hpost
                    have hG2 := grownBy_trans (grownBy_alloc' HG.out _) hg2
                    have hO2 := ho2
                    obtain ⟨hvq, hsq⟩ := tryTok_valued (look_valued M.kids V S (fun p t hp ht => (HR.out.kid p t hp).1 ht) n) HS.out hres
                    obtain ⟨sq, hsq2⟩ := Option.isSome_iff_exists.1 hvq
                    obtain ⟨_, e1, _⟩ := (HR.out.grown hG2 (own_base HO.out) HB1.out).cell hsq
                    rw [hsq2] at e1
                    simp only [valV] at e1
                    have hfin : RemPost M B1 v vs w ((M.kids p).findSome? (tryTok (look M.kids V n) V p r.data.toList vs)) (.returned (.tuple #[.pointer (some ⟨M.nb q, 0, none⟩), v'])) w2 := by
                      rw [HF.out _ hres]
                      exact ⟨v', rfl, hG2, hO2, ho3⟩
                    have HFIN := Lib.hid (HQ.out _ _ hfin)
                    clear hfin hres hvq hsq hsq2 hG2 hg2 ho2 ho3 hO2
                    go_wp2_with fail
                    exact HFIN.out
                · have hres : tryTok (look M.kids V n) V p r.data.toList vs (0, pt) = none := by
                    simp only [tryTok, if_true]
                    rw [if_neg hpre, if_neg (fun h => hsl h.2)]
                  have hb1 : ((mkS pt).toList == [47]) = false := by rw [mkS_toL]; simpa using hsl
                  have HN2 := Lib.hid (HNX.out hres)
                  have HG2 := Lib.hid (grownBy_alloc' HG.out (.cells #[.int .i64 0, .string (mkS pt), .pointer (some ⟨M.nb (p ++ [(0, pt)]), 0, none⟩)] 101))
                  have HO2 := Lib.hid (HW.out.alloc (.cells #[.int .i64 0, .string (mkS pt), .pointer (some ⟨M.nb (p ++ [(0, pt)]), 0, none⟩)] 101))
                  clear hres
                  clear hpre hps hr0 hsl
                  go_wp2_with (go_at_call 47; refine (hasPrefix _ _ _ (by omega) (by omega) false HPR.out).mono ?_; rintro e w' ⟨rfl, rfl⟩)
                  go_roundw
                  case rel => exact ⟨k + 1, by omega, by go_num, HN2.out, HG2.out, HO2.out⟩
                  case measure => simp [intOf]; omega
            · by_cases hk2 : kd = 2
              · subst hk2
                clear hk0
                have HT : Hid (tryTok (look M.kids V n) V p r.data.toList vs (2, pt) = look M.kids V n (p ++ [(2, pt)]) (r.data.toList.dropWhile (· != 47)) (vs ++ [r.data.toList.takeWhile (· != 47)])) := by
                  show _ = _
                  simp [tryTok]
                obtain ⟨i0, hi, hz0, hz1, hz2⟩ := info_parts infoStr
                obtain ⟨ix, j, hix, hj1, hj2, htw, hdw⟩ := index_slash r
                have hx1 : r.extract 0 j = mkS (r.data.toList.takeWhile (· != 47)) := mkS_eq _ _ (by rw [ext_list, htw]; simp)
                have hx2 : (r.extract j r.size).data.toList = r.data.toList.dropWhile (· != 47) := by rw [ext_list, hdw, List.take_of_length_le (by rw [List.length_drop, size_list]; exact Nat.le_refl _)]
                have hS1 : strs vs ++ [.string (r.extract 0 j)] = strs (vs ++ [r.data.toList.takeWhile (· != 47)]) := by rw [hx1]; simp [strs]
                have hS2 : vs.length + 1 = (vs ++ [r.data.toList.takeWhile (· != 47)]).length := by simp
                have HX2 := Lib.hid hx2
                have HS1 := Lib.hid hS1
                have HS2 := Lib.hid hS2
                have HIX := Lib.hid hix
                clear hix htw hdw hx1 hx2 hS1 hS2
                rcases hj2 with ⟨rfl, rfl⟩ | ⟨rfl, hjr⟩
                · rw [show r.extract 0 r.size = r from by simp] at HS1
                  rw [show r.extract r.size r.size = ByteArray.empty from by simp] at HX2
                  have hB3 : B1 ≤ wr.heap.size := by have := HG.out.size; omega
                  have hn3 : vs.length + 1 ≤ 1000000 := by omega
                  go_wp2_with (first | (go_at_call 31; refine (HIX.out _).mono ?_; rintro e w' ⟨rfl, rfl⟩) | (at_builtin; refine wpList_append_keep _ rfl _ _ 22 rfl B1 9 i0 (.string ⟨#[]⟩) 1 16 Tryz.underlying22 hi hz0 hz1 hz2 rfl (by decide) v vs.length (strs vs) rfl ((HW.out.alloc _).alloc _) ⟨wr.heap.size + 1, 0, none⟩ 1 1 (by decide) [.string r] rfl rfl (new_cell _ _ _ _) (str_one _) hn3 le16 (base2 hB3 _ _) ?_))
                  intro v1 w1 a1 a2 a3 a4
                  have e2 := suf_kept HW.out a2 2
                  simp at e2
                  have HWW := Lib.hid ((HW.out.alloc (.cells #[.int .i64 2, .string (mkS pt), .pointer (some ⟨M.nb (p ++ [(2, pt)]), 0, none⟩)] 101)).alloc (.cells #[.string r] 9))
                  have hR1 := (HRr.out.alloc (.cells #[.int .i64 2, .string (mkS pt), .pointer (some ⟨M.nb (p ++ [(2, pt)]), 0, none⟩)] 101)).alloc (.cells #[.string r] 9)
                  have hR2 := hR1.grown a2 (own_base HO.out) HB1.out
                  have hsz := a2.size
                  simp at hsz
                  have hsz2 := HG.out.size
                  have HR2 := Lib.hid hR2
                  have A1 := Lib.hid a1
                  clear hR1 hR2
                  have HA1 : Hid (w1.ownsRow B1 9 1 v1 (vs ++ [r.data.toList.takeWhile (· != 47)]).length (strs (vs ++ [r.data.toList.takeWhile (· != 47)]))) := by
                    show World.ownsRow _ _ _ _ _ _ _
                    rw [← HS1.out, ← HS2.out]
                    exact A1.out
                  have A2 := Lib.hid a2
                  have A3 := Lib.hid a3
                  have A4 := Lib.hid a4
                  clear a1 a2 a3 a4
                  go_wp2_with fail
                  refine (IHC.out ByteArray.empty v1 (vs ++ [r.data.toList.takeWhile (· != 47)]) _ HR2.out (by omega) HA1.out (by simp) (by simp; omega)).mono ?_
                  intro e w2 hpost
                  rw [HX2.out, ← HT.out] at hpost
                  clear HT
                  have a1 := A1.out
                  have a2 := A2.out
                  have a3 := A3.out
                  have a4 := A4.out
                  clear A1 A2 A3 A4 HA1 HR2
                  cases hres : tryTok (look M.kids V n) V p r.data.toList vs (2, pt) with
                  | none =>
                    rw [hres] at hpost
                    obtain ⟨rfl, hg2, ho2⟩ := hpost
                    obtain ⟨hG3, hO2⟩ := after_append (by simp) HWW.out a2 a3 a1 a4 hg2 (by rw [HS1.out, HS2.out]; exact ho2)
                    have hG2 := grownBy_trans (grownBy_alloc' (grownBy_alloc' HG.out _) _) hG3
                    have HN2 := Lib.hid (HNX.out hres)
                    have HG2 := Lib.hid hG2
                    have HO2 := Lib.hid hO2
                    clear hres hg2 ho2 hG2 hO2 hG3 a1 a2 a3 a4
                    go_wp2_with fail
                    go_roundw
                    case rel => exact ⟨k + 1, by omega, by go_num, HN2.out, HG2.out, HO2.out⟩
                    case measure => simp [intOf]; omega
                  | some y =>
                    obtain ⟨q, ys⟩ := y
                    rw [hres] at hpost
                    obtain ⟨v', rfl, hg2, ho2, ho3⟩ := hpost
                    obtain ⟨hG3, hO2⟩ := after_append (by simp) HWW.out a2 a3 a1 a4 hg2 (by rw [HS1.out, HS2.out]; exact ho2)
                    have hG2 := grownBy_trans (grownBy_alloc' (grownBy_alloc' HG.out _) _) hG3
                    obtain ⟨hvq, hsq⟩ := tryTok_valued (look_valued M.kids V S (fun p t hp ht => (HR.out.kid p t hp).1 ht) n) HS.out hres
                    obtain ⟨sq, hsq2⟩ := Option.isSome_iff_exists.1 hvq
                    obtain ⟨_, e1, _⟩ := (HR.out.grown hG2 (own_base HO.out) HB1.out).cell hsq
                    rw [hsq2] at e1
                    simp only [valV] at e1
                    have hfin : RemPost M B1 v vs w ((M.kids p).findSome? (tryTok (look M.kids V n) V p r.data.toList vs)) (.returned (.tuple #[.pointer (some ⟨M.nb q, 0, none⟩), v'])) w2 := by
                      rw [HF.out _ hres]
                      exact ⟨v', rfl, hG2, hO2, ho3⟩
                    have HFIN := Lib.hid (HQ.out _ _ hfin)
                    clear hfin hres hvq hsq hsq2 hG2 hg2 ho2 ho3 hO2 hG3 a1 a2 a3 a4
                    go_wp2_with fail
                    exact HFIN.out

                · have hB3 : B1 ≤ wr.heap.size := by have := HG.out.size; omega
                  have hn3 : vs.length + 1 ≤ 1000000 := by omega
                  go_wp2_with (first | (go_at_call 31; refine (HIX.out _).mono ?_; rintro e w' ⟨rfl, rfl⟩) | (at_builtin; refine wpList_append_keep _ rfl _ _ 22 rfl B1 9 i0 (.string ⟨#[]⟩) 1 16 Tryz.underlying22 hi hz0 hz1 hz2 rfl (by decide) v vs.length (strs vs) rfl ((HW.out.alloc _).alloc _) ⟨wr.heap.size + 1, 0, none⟩ 1 1 (by decide) [.string (r.extract 0 j)] rfl rfl (new_cell _ _ _ _) (str_one _) hn3 le16 (base2 hB3 _ _) ?_))
                  intro v1 w1 a1 a2 a3 a4
                  have e2 := suf_kept HW.out a2 2
                  simp at e2
                  have HWW := Lib.hid ((HW.out.alloc (.cells #[.int .i64 2, .string (mkS pt), .pointer (some ⟨M.nb (p ++ [(2, pt)]), 0, none⟩)] 101)).alloc (.cells #[.string (r.extract 0 j)] 9))
                  have hR1 := (HRr.out.alloc (.cells #[.int .i64 2, .string (mkS pt), .pointer (some ⟨M.nb (p ++ [(2, pt)]), 0, none⟩)] 101)).alloc (.cells #[.string (r.extract 0 j)] 9)
                  have hR2 := hR1.grown a2 (own_base HO.out) HB1.out
                  have hsz := a2.size
                  simp at hsz
                  have hsz2 := HG.out.size
                  have HR2 := Lib.hid hR2
                  have A1 := Lib.hid a1
                  clear hR1 hR2
                  have HA1 : Hid (w1.ownsRow B1 9 1 v1 (vs ++ [r.data.toList.takeWhile (· != 47)]).length (strs (vs ++ [r.data.toList.takeWhile (· != 47)]))) := by
                    show World.ownsRow _ _ _ _ _ _ _
                    rw [← HS1.out, ← HS2.out]
                    exact A1.out
                  have A2 := Lib.hid a2
                  have A3 := Lib.hid a3
                  have A4 := Lib.hid a4
                  clear a1 a2 a3 a4
                  go_wp2_with fail
                  refine (IHC.out (r.extract j r.size) v1 (vs ++ [r.data.toList.takeWhile (· != 47)]) _ HR2.out (by omega) HA1.out (by simp; omega) (by simp; omega)).mono ?_
                  intro e w2 hpost
                  rw [HX2.out, ← HT.out] at hpost
                  clear HT
                  have a1 := A1.out
                  have a2 := A2.out
                  have a3 := A3.out
                  have a4 := A4.out
                  clear A1 A2 A3 A4 HA1 HR2
                  cases hres : tryTok (look M.kids V n) V p r.data.toList vs (2, pt) with
                  | none =>
                    rw [hres] at hpost
                    obtain ⟨rfl, hg2, ho2⟩ := hpost
                    obtain ⟨hG3, hO2⟩ := after_append (by simp) HWW.out a2 a3 a1 a4 hg2 (by rw [HS1.out, HS2.out]; exact ho2)
                    have hG2 := grownBy_trans (grownBy_alloc' (grownBy_alloc' HG.out _) _) hG3
                    have HN2 := Lib.hid (HNX.out hres)
                    have HG2 := Lib.hid hG2
                    have HO2 := Lib.hid hO2
                    clear hres hg2 ho2 hG2 hO2 hG3 a1 a2 a3 a4
                    go_wp2_with fail
                    go_roundw
                    case rel => exact ⟨k + 1, by omega, by go_num, HN2.out, HG2.out, HO2.out⟩
                    case measure => simp [intOf]; omega
                  | some y =>
                    obtain ⟨q, ys⟩ := y
                    rw [hres] at hpost
                    obtain ⟨v', rfl, hg2, ho2, ho3⟩ := hpost
                    obtain ⟨hG3, hO2⟩ := after_append (by simp) HWW.out a2 a3 a1 a4 hg2 (by rw [HS1.out, HS2.out]; exact ho2)
                    have hG2 := grownBy_trans (grownBy_alloc' (grownBy_alloc' HG.out _) _) hG3
                    obtain ⟨hvq, hsq⟩ := tryTok_valued (look_valued M.kids V S (fun p t hp ht => (HR.out.kid p t hp).1 ht) n) HS.out hres
                    obtain ⟨sq, hsq2⟩ := Option.isSome_iff_exists.1 hvq
                    obtain ⟨_, e1, _⟩ := (HR.out.grown hG2 (own_base HO.out) HB1.out).cell hsq
                    rw [hsq2] at e1
                    simp only [valV] at e1
                    have hfin : RemPost M B1 v vs w ((M.kids p).findSome? (tryTok (look M.kids V n) V p r.data.toList vs)) (.returned (.tuple #[.pointer (some ⟨M.nb q, 0, none⟩), v'])) w2 := by
                      rw [HF.out _ hres]
                      exact ⟨v', rfl, hG2, hO2, ho3⟩
                    have HFIN := Lib.hid (HQ.out _ _ hfin)
                    clear hfin hres hvq hsq hsq2 hG2 hg2 ho2 ho3 hO2 hG3 a1 a2 a3 a4
                    go_wp2_with fail
                    exact HFIN.out

              · by_cases hk3 : kd = 3
                · subst hk3
                  clear hk0 hk2
                  have hB4 : True := trivial
                  obtain ⟨i0, hi, hz0, hz1, hz2⟩ := info_parts infoStr
                  have hS1 : strs vs ++ [.string r] = strs (vs ++ [r.data.toList]) := by simp [strs, mkS_self]
                  have HS1 := Lib.hid hS1
                  clear hS1
                  obtain ⟨_, f1, _⟩ := HRr.out.cell HS.out
                  have hR1 := (HRr.out.alloc (.cells #[.int .i64 3, .string (mkS pt), .pointer (some ⟨M.nb (p ++ [(3, pt)]), 0, none⟩)] 101)).alloc (.cells #[.string r] 9)
                  have HR1 := Lib.hid hR1
                  clear hR1
                  cases hvt : V (p ++ [(3, pt)]) with
                  | none =>
                    have hres : tryTok (look M.kids V n) V p r.data.toList vs (3, pt) = none := by simp [tryTok, hvt]
                    have hB3 : B1 ≤ wr.heap.size := by have := HG.out.size; omega
                    have hn3 : vs.length + 1 ≤ 1000000 := by omega
                    go_wp2_with (first | (at_builtin; refine wpList_append_keep _ rfl _ _ 22 rfl B1 9 i0 (.string ⟨#[]⟩) 1 16 Tryz.underlying22 hi hz0 hz1 hz2 rfl (by decide) v vs.length (strs vs) rfl ((HW.out.alloc _).alloc _) ⟨wr.heap.size + 1, 0, none⟩ 1 1 (by decide) [.string (r)] rfl rfl (new_cell _ _ _ _) (str_one _) hn3 le16 (base2 hB3 _ _) ?_))
                    intro v1 w1 a1 a2 a3 a4
                    obtain ⟨_, e1, _⟩ := (HR1.out.grown a2 (own_base HO.out) HB1.out).cell HS.out
                    rw [hvt] at e1
                    simp only [valV] at e1
                    have HN2 := Lib.hid (HNX.out hres)
                    have HG2 := Lib.hid (grownBy_trans (grownBy_alloc' (grownBy_alloc' HG.out _) _) a2)
                    have HO2 := Lib.hid a3
                    have e2 := suf_kept HW.out a2 2
                    simp at e2
                    clear hres a1 a2 a3 a4 hvt f1
                    go_wp2_with fail
                    go_roundw
                    case rel => exact ⟨k + 1, by omega, by go_num, HN2.out, HG2.out, HO2.out⟩
                    case measure => simp [intOf]; omega
                  | some sv =>
                    have hres : tryTok (look M.kids V n) V p r.data.toList vs (3, pt) = some (p ++ [(3, pt)], vs ++ [r.data.toList]) := by simp [tryTok, hvt]
                    have hB3 : B1 ≤ wr.heap.size := by have := HG.out.size; omega
                    have hn3 : vs.length + 1 ≤ 1000000 := by omega
                    go_wp2_with (first | (at_builtin; refine wpList_append_keep _ rfl _ _ 22 rfl B1 9 i0 (.string ⟨#[]⟩) 1 16 Tryz.underlying22 hi hz0 hz1 hz2 rfl (by decide) v vs.length (strs vs) rfl ((HW.out.alloc _).alloc _) ⟨wr.heap.size + 1, 0, none⟩ 1 1 (by decide) [.string (r)] rfl rfl (new_cell _ _ _ _) (str_one _) hn3 le16 (base2 hB3 _ _) ?_))
                    intro v1 w1 a1 a2 a3 a4
                    obtain ⟨_, e1, _⟩ := (HR1.out.grown a2 (own_base HO.out) HB1.out).cell HS.out
                    rw [hvt] at e1
                    simp only [valV] at e1
                    have hG2 := grownBy_trans (grownBy_alloc' (grownBy_alloc' HG.out _) _) a2
                    have hfin : RemPost M B1 v vs w ((M.kids p).findSome? (tryTok (look M.kids V n) V p r.data.toList vs)) (.returned (.tuple #[.pointer (some ⟨M.nb (p ++ [(3, pt)]), 0, none⟩), v1])) w1 := by
                      rw [HF.out _ hres]
                      exact ⟨v1, rfl, hG2, a3, by rw [← HS1.out, List.length_append]; exact a1⟩
                    have HFIN := Lib.hid (HQ.out _ _ hfin)
                    have e2 := suf_kept HW.out a2 2
                    simp at e2
                    clear hfin hres hG2 a1 a2 a3 a4 hvt f1
                    go_wp2_with fail
                    exact HFIN.out
                · have hres : tryTok (look M.kids V n) V p r.data.toList vs (kd, pt) = none := by simp [tryTok, hk0, hk2, hk3]
                  have hb0 : (kd == 0) = false := by simp [hk0]
                  have hb2 : (kd == 2) = false := by simp [hk2]
                  have hb3 : (kd == 3) = false := by simp [hk3]
                  have HN2 := Lib.hid (HNX.out hres)
                  have HG2 := Lib.hid (grownBy_alloc' HG.out (.cells #[.int .i64 kd, .string (mkS pt), .pointer (some ⟨M.nb (p ++ [(kd, pt)]), 0, none⟩)] 101))
                  have HO2 := Lib.hid (HW.out.alloc (.cells #[.int .i64 kd, .string (mkS pt), .pointer (some ⟨M.nb (p ++ [(kd, pt)]), 0, none⟩)] 101))
                  clear hres
                  clear hk0 hk2 hk3
                  go_wp2_with fail
                  go_roundw
                  case rel => exact ⟨k + 1, by omega, by go_num, HN2.out, HG2.out, HO2.out⟩
                  case measure => simp [intOf]; omega
          · have hke : k = (M.kids p).length := by omega
            have hfin : RemPost M B1 v vs w ((M.kids p).findSome? (tryTok (look M.kids V n) V p r.data.toList vs)) (.returned (.tuple #[.pointer none, .slice none 0 0])) wr := by
              have := HN.out
              rw [hke, List.take_length] at this
              rw [this]
              exact ⟨rfl, HG.out, HW.out⟩
            have HFIN := Lib.hid (HQ.out _ _ hfin)
            clear hfin
            subst hke
            go_wp2_with fail
            exact HFIN.out
end Go.Proofs.YtpdnjgbcnnjdiaaGreatDoor
