/- The paths object: its map in memory, as impl.paths lays it; Len, Set, Map. -/
import Derived.Test.YtpdnjgbcnnjdiaaGreatDoorOwn
import Derived.Test.YtpdnjgbcnnjdiaaGreatDoorTree
import Derived.Maps.OwnSet
import Derived.Maps.RangeWalk
import Derived.Maps.Ext
import Derived.StringKeys
import Derived.Sort.KeysCollected
import Derived.Lib.Hide
import Derived.Deep.LoopGhost
namespace Go.Proofs.YtpdnjgbcnnjdiaaGreatDoor
open Go Go.RowKit Go.Maps Go.MapKept Go.ChangeMaps Go.WideMaps
open Go.Proofs (encStr)
set_option linter.unusedVariables false
set_option linter.unusedSimpArgs false

/-- An item's pointer, read as the number of its block. -/
def ptrElem : Value → Option (DataW Unit × List MemPlace)
  | .pointer none => some (.lit (.bool false), [])
  | .pointer (some ⟨b, 0, none⟩) => some (.lit (.int .i64 b), [])
  | _ => none
theorem ptrElem_mk (b : Nat) : ptrElem (.pointer (some ⟨b, 0, none⟩)) = some (.lit (.int .i64 b), []) := rfl
theorem ptrElem_inv {v : Value} {y : DataW Unit × List MemPlace} (h : ptrElem v = some y) : ∃ o : Option Nat, v = .pointer (o.map fun b => ⟨b, 0, none⟩) ∧ y.1 = (match o with | none => .lit (.bool false) | some b => .lit (.int .i64 b)) ∧ y.2 = [] := by
  unfold ptrElem at h
  split at h
  · injection h with h; subst h; exact ⟨none, rfl, rfl, rfl⟩
  · injection h with h; subst h; exact ⟨some _, rfl, rfl, rfl⟩
  · cases h
theorem lawS : Keyed Tryz.prog 9 := string_keyed Tryz.underlying9

abbrev PMap (w : World) (mb n : Nat) (D : DataW Unit) : Prop := w.ownsMap Tryz.prog 9 ptrElem mb n D
/-- The object itself. -/
def PObj (w : World) (pb mb : Nat) : Prop := w.heap[pb]? = some (.cells #[.map none, .pointer none, .map (some mb)] 75 (0, 0))
theorem PObj.cell {w : World} {pb mb : Nat} (h : PObj w pb mb) : w.cell? ⟨pb, 2, none⟩ = some (.map (some mb)) := by
  unfold PObj at h
  simp [World.cell?, h]
theorem PObj.lt {w : World} {pb mb : Nat} (h : PObj w pb mb) : pb < w.heap.size := (Array.getElem?_eq_some_iff.1 h).1
theorem PObj.kept {w w' : World} {pb mb : Nat} {r : Option Nat} (h : PObj w pb mb) (hg : w.grownBy w' r) (hne : r ≠ some pb) : PObj w' pb mb :=
  (hg.block pb (PObj.lt h) (fun e => hne e.symm)).trans h
theorem PObj.ne {w : World} {pb mb n : Nat} {D : DataW Unit} (h : PObj w pb mb) (hm : PMap w mb n D) : pb ≠ mb := by
  obtain ⟨es, clock, hb, _⟩ := hm
  rintro rfl
  unfold PObj at h
  rw [h] at hb
  cases hb

theorem mapNil (mb : Nat) (w : World) : (binOp BinOp.eql 55 (.map (some mb)) (.map none)).run Tryz.prog w = .ok (.bool false) w := by kernel_rfl

theorem makeMapN (n : Nat) (w : World) : (Instr.makeMap 55 (some (.int .i64 (n : Int)))).run Tryz.prog w = .ok (.map (some w.heap.size)) (w.alloc (.map #[] 0)) := by
  simp [Instr.makeMap, asInt, asIntOf, Result.andThen]
theorem newPaths (w : World) : Calls Tryz.prog 20 #[.slice none 0 0] w fun e w' => e = .returned (.pointer (some ⟨w.heap.size + 1, 0, none⟩)) ∧ PObj w' (w.heap.size + 1) w.heap.size ∧ PMap w' w.heap.size 0 (.map []) ∧ Below w.heap.size w w' := by
  have hmm := @run_makeMap Tryz.prog
  have h1 : Calls Tryz.prog 29 #[.int .i64 0] w fun e w' => e = .returned (.pointer (some ⟨w.heap.size + 1, 0, none⟩)) ∧ PObj w' (w.heap.size + 1) w.heap.size ∧ PMap w' w.heap.size 0 (.map []) ∧ Below w.heap.size w w' := by
    go_enter Tryz.func29, Tryz.ntmps29
    go_wp2
    go_ret
    have hs : (w.alloc (.map #[] 0)).heap.size = w.heap.size + 1 := by simp
    refine ⟨rfl, ?_, (World.ownsMap_made _ _ _ _).alloc _, ((Below.refl _ _).alloc (Nat.le_refl _) _).alloc (by omega) _⟩
    have := heap_alloc_new (w.alloc (.map #[] 0)) (.cells #[.map none, .pointer none, .map (some w.heap.size)] 75)
    rw [hs] at this
    exact this
  have H1 := Lib.hid h1
  clear h1
  go_enter Tryz.func20, Tryz.ntmps20
  go_wp2_with fail
  refine H1.out.mono ?_
  rintro e w1 ⟨rfl, ho, hm, hb⟩
  have HO := Lib.hid ho
  have HM := Lib.hid hm
  have HB := Lib.hid hb
  clear ho hm hb
  go_wp2_with fail
  refine wp_loop_rounds 1 ?_
  rw [rounds_succ]
  go_wp2_with fail
  go_ret
  exact ⟨rfl, HO.out, HM.out, HB.out⟩

set_option maxRecDepth 100000 in
theorem setItem (pb mb n ib : Nat) (D : DataW Unit) (k : ByteArray) (hk : k.size ≤ maxLen) (w : World) (ho : PObj w pb mb) (hm : PMap w mb n D) (hn : n < maxLen) :
    Calls Tryz.prog 21 #[.pointer (some ⟨pb, 0, none⟩), .string k, .pointer (some ⟨ib, 0, none⟩)] w fun e w' => e = .returned (.tuple #[]) ∧ PMap w' mb (n + 1) (D.put (.string k.data.toList) (.lit (.int .i64 ib))) ∧ w.grownBy w' (some mb) := by
  have c2 := PObj.cell ho
  have hnil := mapNil mb
  go_enter Tryz.func21, Tryz.ntmps21
  go_wp2_with (first
    | (at_mapUpdate; refine wpList_mapUpdate_own _ rfl _ _ _ 55 rfl 9 35 lawS Tryz.underlying55 _ mb n D rfl hm hn _ _ _ rfl rfl (keyOf_string_mk Tryz.underlying9 hk) _ [] (ptrElem_mk ib) ?_; intro w1 hm1 hg1)
    | go_in)
  go_end0
  exact ⟨rfl, hm1, hg1⟩

set_option maxRecDepth 100000 in
theorem lenItems (pb mb n : Nat) (D : DataW Unit) (w : World) (ho : PObj w pb mb) (hm : PMap w mb n D) :
    Calls Tryz.prog 30 #[.pointer (some ⟨pb, 0, none⟩)] w fun e w' => e = .returned (.int .i64 (Maps.size D)) ∧ w' = w := by
  have c2 := PObj.cell ho
  have hnil := mapNil mb
  go_enter Tryz.func30, Tryz.ntmps30
  go_wp2_with (first
    | (at_len; refine wpList_len_own _ rfl _ 55 rfl 9 35 Tryz.underlying55 _ mb n D rfl hm ?_)
    | go_in)
  go_ret
  exact ⟨rfl, rfl⟩

theorem mkS_enc (x : Bs) : encStr x = .string (mkS x) := rfl
theorem strS {key : Value} {kl : Lit} (h : keyOf Tryz.prog 9 key = some kl) : ∃ x : Bs, key = encStr x := by
  obtain ⟨x, hx, _⟩ := Maps.keyOf_str Tryz.underlying9 h
  exact ⟨x, hx⟩
theorem ptrV (v : Value) (y : DataW Unit × List MemPlace) (h : ptrElem v = some y) : ∃ o : Option Nat, v = (fun o : Option Nat => Value.pointer (o.map fun b => ⟨b, 0, none⟩)) o := by
  obtain ⟨o, h, _⟩ := ptrElem_inv h
  exact ⟨o, h⟩
theorem ptrElem_o (o : Option Nat) : ptrElem (.pointer (o.map fun b => ⟨b, 0, none⟩)) = some ((match o with | none => .lit (.bool false) | some b => .lit (.int .i64 b)), []) := by
  cases o <;> rfl

set_option maxRecDepth 100000 in
theorem copyItems (b b2 n : Nat) (D : DataW Unit) (w : World) (hm : PMap w b n D) (h2 : PMap w b2 0 (.map [])) (hne : b ≠ b2) (hn : n ≤ 1000000) :
    Calls Tryz.prog 35 #[.map (some b2), .map (some b)] w fun e w' => e = .returned (.tuple #[]) ∧ PMap w' b2 (Maps.size D) D ∧ w.grownBy w' (some b2) := by
  have hbl := World.ownsMap.lt hm
  have hbl2 := World.ownsMap.lt h2
  have hsz := World.ownsMap.size_le hm
  have HNE := Lib.hid hne
  go_enter Tryz.func35, Tryz.ntmps35
  go_wp2_with (first
    | (at_range; refine wpList_range_own _ rfl _ 55 rfl 9 35 lawS Tryz.underlying55 _ b n _ rfl hm ?_; intro w0 hrg0 hg0 hs0)
    | go_in)
  go_frame
  have HRG := Lib.hid hrg0
  have HG0 := Lib.hid hg0
  have HS0 := Lib.hid hs0
  clear hrg0 hg0 hs0
  go_loopw [4, 5] (fun _ _ wr => ∃ (left : Lit → Bool) (cnt : Nat) (Dout : DataW Unit), Hid (wr.ranges Tryz.prog 9 ptrElem b w.heap.size n D left cnt) ∧ cnt ≤ Maps.size D ∧ Hid (PMap wr b2 (Maps.size D - cnt) Dout) ∧ Hid (Agree Dout D left) ∧ Hid (w.grownBy wr (some b2)))
    (fun _ _ wr => wr.rangeLeft b w.heap.size)
  case atStart =>
    exact ⟨_, _, .map [], HRG, Nat.le_refl _, World.ownsMap.mono (World.ownsMap.kept h2 HG0.out (by simp)) (Nat.zero_le _), agree_start D, HG0.out.but _⟩
  case round =>
    obtain ⟨left, cnt, Dout, hrg, hcs, hout, hA, hgr⟩ := hrel
    go_wp2_with (first
      | (at_next; refine wpList_next_ranges _ rfl _ rfl 9 lawS ptrElem encStr (fun o : Option Nat => Value.pointer (o.map fun b => ⟨b, 0, none⟩)) (fun key kl h => strS h) ptrV b w.heap.size n D left cnt rfl hrg.out ?_ ?_)
      | go_in)
    · intro hc0 hl0
      go_wp2_with fail
      go_end0
      subst hc0
      have e := agree_end hA.out hl0 (World.ownsMap.canon hout.out lawS) (World.ownsMap.canon hm lawS)
      subst e
      exact ⟨rfl, by simpa using hout.out, hgr.out⟩
    · intro x o kl yd yp w1 cnt1 hkey hlk hv hat hrg1 hlt hg1 hs1 hen
      obtain ⟨x', ex, rfl, hxl⟩ := Maps.keyOf_str Tryz.underlying9 hkey
      obtain rfl : x = x' := encStr_inj ex
      have hout1 := World.ownsMap.kept hout.out hg1 (fun e => by have := Option.some.inj e; omega)
      have HR1 := Lib.hid hrg1
      have HG1 := Lib.hid hg1
      have HAT := Lib.hid hat
      have HLT := Lib.hid hlt
      have HO1 := Lib.hid hout1
      have HV := Lib.hid hv
      clear hrg1 hg1 hat hlt hout1 hs1 hlk hv ex
      go_wp2_with (first
        | (at_mapUpdate; refine wpList_mapUpdate_own _ rfl _ _ _ 55 rfl 9 35 lawS Tryz.underlying55 _ b2 _ _ rfl HO1.out (by unfold maxLen; omega) _ _ _ rfl rfl hkey _ _ HV.out ?_; intro w2 hout2 hg2; go_frame)
        | go_in)
      have hrg2 := HR1.out.kept hg2 (fun e => HNE.out (Option.some.inj e)) (fun e => by have := Option.some.inj e; omega)
      go_roundw
      case rel =>
        refine ⟨_, cnt1, _, hrg2, by have := HLT.out; omega, World.ownsMap.mono hout2 (by have := HLT.out; omega), ?_, ?_⟩
        · exact agree_step hA.out (World.ownsMap.isMap hout.out) trivial HAT.out
        · exact grownBy_new (grownBy_new hgr.out HG1.out (fun b hb => by cases hb; exact .inl (Nat.le_refl _))) hg2 (fun b hb => .inr hb)
      case measure => rw [hrg2.left_eq, hrg.out.left_eq]; exact HLT.out
set_option maxRecDepth 100000 in
theorem mapItems (pb mb n : Nat) (D : DataW Unit) (w : World) (ho : PObj w pb mb) (hm : PMap w mb n D) (hn : n ≤ 1000000) (hsz : 0 < Maps.size D) :
    Calls Tryz.prog 24 #[.pointer (some ⟨pb, 0, none⟩)] w fun e w' => e = .returned (.map (some w.heap.size)) ∧ PMap w' w.heap.size (Maps.size D) D ∧ w.grownBy w' none := by
  have c2 := PObj.cell ho
  have hnil := mapNil mb
  have hmm := @run_makeMap Tryz.prog
  have hlt := World.ownsMap.lt hm
  have hcp := copyItems mb w.heap.size n D (w.alloc (.map #[] 0)) (World.ownsMap.alloc hm _) (World.ownsMap_made _ _ _ _) (by omega) hn
  have HCP := Lib.hid hcp
  have hz : ((Maps.size D : Int) = 0) = False := eq_false (by omega)
  have hz1 : ((Maps.size D : Int) == 0) = false := by simpa using (show Maps.size D ≠ 0 by omega)
  clear hcp
  go_enter Tryz.func24, Tryz.ntmps24
  have hlen := World.ownsMap.len hm Tryz.underlying55 3
  have hm2 := makeMapN (Maps.size D) w
  have c3 := PObj.cell (PObj.kept ho (World.grownBy_alloc w (.map #[] 0) none) (by simp))
  go_wp2_with fail
  refine HCP.out.mono ?_
  rintro e w1 ⟨rfl, hm1, hg1⟩
  have hg := grownBy_new (World.grownBy_alloc w (.map #[] 0) none) hg1 (fun b hb => by cases hb; exact .inl (Nat.le_refl _))
  go_wp2_with fail
  go_ret
  exact ⟨rfl, hm1, hg⟩

/-- The map holds the paths of a list, each with an item that bears it. -/
structure PHas (w : World) (base : Nat) (D : DataW Unit) (L : List Bs) : Prop where
  keys : ∀ s : Bs, Maps.has D (.string s) = true ↔ s ∈ L
  refs : ∀ s ∈ L, ∃ b : Nat, (∀ zd, D.atKey (.string s) zd = .lit (.int .i64 b)) ∧ base ≤ b ∧ w.heap[b]? = some (.cells #[.string (mkS s)] 40 (0, 0))
theorem PHas.kept {w w' : World} {base mb n : Nat} {D : DataW Unit} {L : List Bs} (h : PHas w base D L) (hm : PMap w mb n D) (hg : w.grownBy w' (some mb)) : PHas w' base D L := by
  refine ⟨h.keys, fun s hs => ?_⟩
  obtain ⟨b, h1, h2, h3⟩ := h.refs s hs
  refine ⟨b, h1, h2, ?_⟩
  rw [hg.block b (Array.getElem?_eq_some_iff.1 h3).1 ?_]
  · exact h3
  · intro e
    obtain ⟨es, clock, hb, _⟩ := hm
    have e := Option.some.inj e
    subst e
    rw [h3] at hb
    cases hb
theorem PHas.put {w : World} {base mb n ib : Nat} {D : DataW Unit} {L : List Bs} (h : PHas w base D L) (hm : PMap w mb n D) (s : Bs) (hib : base ≤ ib) (hc : w.heap[ib]? = some (.cells #[.string (mkS s)] 40 (0, 0))) : PHas w base (D.put (.string s) (.lit (.int .i64 ib))) (L ++ [s]) := by
  refine ⟨fun t => ?_, fun t ht => ?_⟩
  · by_cases e : t = s
    · subst e
      rw [has_put_same (World.ownsMap.isMap hm) (show WideAt.IsKeyLit (.string t) from trivial)]
      simp
    · rw [has_put_other (fun h => e (by injection h)), h.keys]
      simp [e]
  · by_cases e : t = s
    · subst e
      exact ⟨ib, fun zd => atKey_put_same (World.ownsMap.isMap hm) (show WideAt.IsKeyLit (.string t) from trivial) _ zd, hib, hc⟩
    · have ht' : t ∈ L := by
        rcases List.mem_append.1 ht with h | h
        · exact h
        · exact absurd (List.mem_singleton.1 h) e
      obtain ⟨b, h1, h2, h3⟩ := h.refs t ht'
      exact ⟨b, fun zd => by rw [atKey_put_other (fun h => e (by injection h))]; exact h1 zd, h2, h3⟩

theorem PHas.alloc {w : World} {base : Nat} {D : DataW Unit} {L : List Bs} (h : PHas w base D L) (o : Obj) : PHas (w.alloc o) base D L :=
  ⟨h.keys, fun s hs => by
    obtain ⟨b, h1, h2, h3⟩ := h.refs s hs
    exact ⟨b, h1, h2, by rw [heap_alloc_old w o (Array.getElem?_eq_some_iff.1 h3).1]; exact h3⟩⟩

set_option maxRecDepth 100000 in
theorem implPaths (A : Option Addr) (c : Nat) (l : List ByteArray) (w : World) (hC : ∀ W, Below w.heap.size w W → ∀ k (h : k < l.length), ∃ ad, A = some ad ∧ W.cell? (ad.add k) = some (.string l[k])) (hl : l.length ≤ 1000) (hs : ∀ x ∈ l, x.size ≤ maxLen) :
    Calls Tryz.prog 13 #[.slice A l.length c] w fun e w' => ∃ pb mb D, e = .returned (.pointer (some ⟨pb, 0, none⟩)) ∧ PObj w' pb mb ∧ PMap w' mb l.length D ∧ PHas w' w.heap.size D (l.map (·.data.toList)) ∧ w.heap.size ≤ pb ∧ w.heap.size ≤ mb ∧ Below w.heap.size w w' := by
  have HNP := Lib.hid (newPaths w)
  have HC := Lib.hid hC
  have HS := Lib.hid hs
  clear hC hs
  go_enter Tryz.func13, Tryz.ntmps13
  go_wp2_with fail
  refine HNP.out.mono ?_
  rintro e w1 ⟨rfl, ho, hm, hb⟩
  have HO := Lib.hid ho
  have HM := Lib.hid hm
  have HB := Lib.hid hb
  clear ho hm hb
  go_wp2_with fail
  go_loopg [9] l.length (fun g v9 wr => ∃ (i : Nat) (D : DataW Unit), i + g = l.length ∧ v9 = .int .i64 i ∧ Hid (PObj wr (w.heap.size + 1) w.heap.size) ∧ Hid (PMap wr w.heap.size i D) ∧ Hid (PHas wr w.heap.size D ((l.take i).map (·.data.toList))) ∧ Hid (Below w.heap.size w wr))
  case atStart =>
    refine ⟨0, .map [], by simp, rfl, HO, HM, ?_, HB⟩
    exact ⟨fun s => by simp [Maps.has], fun s hs => by simp at hs⟩
  case round =>
    obtain ⟨i, D, hig, rfl, hO, hM, hP, hB⟩ := hrel
    cases gk with
    | zero =>
      have hil : i = l.length := by omega
      subst hil
      rw [List.take_length] at hP
      go_wp2_with fail
      go_ret
      exact ⟨_, _, D, rfl, hO.out, hM.out, hP.out, Nat.le_succ _, Nat.le_refl _, hB.out⟩
    | succ k =>
      have hil : i < l.length := by omega
      obtain ⟨ad, rfl, hcell⟩ := HC.out wr hB.out i hil
      have hw1 : wrap64 ((i : Int) + 1) = ((i + 1 : Nat) : Int) := by unfold wrap64; omega
      have htk : l.take (i + 1) = l.take i ++ [l[i]] := by rw [List.take_add_one, List.getElem?_eq_getElem hil]; rfl
      have hsz := HS.out _ (List.getElem_mem hil)
      generalize l[i] = p at hcell htk hsz
      have HTK := Lib.hid htk
      have hnew := heap_alloc_new wr (.cells #[.string p] 40)
      have hP1 := (hP.out.alloc (.cells #[.string p] 40)).put (World.ownsMap.alloc hM.out _) p.data.toList hB.out.size (by rw [mkS_self]; exact hnew)
      have HP1 := Lib.hid hP1
      have HST := Lib.hid (setItem (w.heap.size + 1) w.heap.size i wr.heap.size D p hsz (wr.alloc (.cells #[.string p] 40)) (PObj.kept hO.out (World.grownBy_alloc wr _ none) (by simp)) (World.ownsMap.alloc hM.out _) (by unfold maxLen; omega))
      clear htk hnew hP1 hsz
      go_wp2_with fail
      refine HST.out.mono ?_
      rintro e w2 ⟨rfl, hm2, hg2⟩
      have HM2 := Lib.hid hm2
      have HG2 := Lib.hid hg2
      clear hm2 hg2
      go_wp2_with fail
      go_roundg k
      case rel =>
        refine ⟨i + 1, _, by omega, by simp, ?_, HM2, ?_, ?_⟩
        · exact PObj.kept (PObj.kept hO.out (World.grownBy_alloc wr _ none) (by simp)) HG2.out (by simp)
        · show PHas _ _ _ _
          rw [HTK.out, List.map_append]
          refine ⟨HP1.out.keys, fun s hs => ?_⟩
          obtain ⟨b, h1, h2, h3⟩ := HP1.out.refs s hs
          refine ⟨b, h1, h2, ?_⟩
          rw [HG2.out.block b (Array.getElem?_eq_some_iff.1 h3).1 ?_]
          · exact h3
          · intro e
            obtain ⟨es, clock, hb, _⟩ := World.ownsMap.alloc hM.out (.cells #[.string p] 40)
            have e := Option.some.inj e
            subst e
            rw [h3] at hb
            cases hb
        · exact (hB.out.alloc hB.out.size _).grown HG2.out (by have := hB.out.size; simp; omega) (fun j hj => by cases hj; exact Nat.le_refl _)
      case measure => omega
end Go.Proofs.YtpdnjgbcnnjdiaaGreatDoor
