/- Paths.InMatchingOrder. -/
import Derived.Test.YtpdnjgbcnnjdiaaDoorOrdA
import Derived.Test.YtpdnjgbcnnjdiaaDoorImplMatch
namespace Go.Proofs.YtpdnjgbcnnjdiaaDoor
open Go Go.RowKit Go.Sort Go.Maps Go.MapKept Go.ChangeMaps Go.WideMaps
open Go.Proofs (encStr)
set_option linter.unusedVariables false
set_option linter.unusedSimpArgs false

/-- A group's slice, read as where it lies. -/
def sliceElem : Value → Option (DataW Unit × List MemPlace)
  | .slice none 0 0 => some (.lit (.bool false), [])
  | .slice (some ⟨b, 0, none⟩) n c => some (.agg [.lit (.int .i64 b), .lit (.int .i64 n), .lit (.int .i64 c)], [])
  | _ => none
theorem sliceElem_inj {v v' : Value} {y y' : DataW Unit × List MemPlace} (h : sliceElem v = some y) (h' : sliceElem v' = some y') (he : y.1 = y'.1) : v = v' := by
  unfold sliceElem at h h'
  split at h <;> split at h' <;> simp only [Option.some.injEq, reduceCtorEq] at h h' <;> subst h <;> subst h' <;> simp_all
  omega
theorem sliceElem_own {w : World} {B e size n : Nat} {v : Value} {xs : List Value} (h : w.ownsRow B e size v n xs) : ∃ y, sliceElem v = some (y, []) := by
  rcases h.2 with ⟨rfl, _⟩ | ⟨g, cap, cur, rfl, _⟩
  · exact ⟨_, rfl⟩
  · exact ⟨_, rfl⟩
theorem lawI : Keyed Tryd.prog 3 := int_keyed Tryd.underlying3
theorem zeroSl (w : World) : (zeroValue 22).run Tryd.prog w = .ok (.slice none 0 0) w := by kernel_rfl
theorem keyI (c : Nat) (h : c ≤ 1000000) : keyOf Tryd.prog 3 (.int .i64 (c : Int)) = some (.int .i64 (c : Int)) := keyOf_int_mk Tryd.underlying3 (WalkArith.wf_i64 (by omega))

/-- The texts of a count. -/
def grp (ss : List Bs) (c : Nat) : List Bs := ss.filter fun s => cntB s == c
theorem grp_snoc (ss : List Bs) (x : Bs) (c : Nat) : grp (ss ++ [x]) c = grp ss c ++ (if cntB x = c then [x] else []) := by
  unfold grp
  rw [List.filter_append]
  by_cases h : cntB x = c <;> simp [h]
theorem grp_len (ss : List Bs) (c : Nat) : (grp ss c).length ≤ ss.length := List.length_filter_le _ _

theorem row_ne_map {w : World} {B e size n vb K : Nat} {v : Value} {xs : List Value} {k : TypeId} {R : Value → Option (DataW Unit × List MemPlace)} {D : DataW Unit} (h : w.ownsRow B e size v n xs) (hm : w.ownsMap Tryd.prog k R vb K D) : v.ownBlock ≠ some vb := by
  obtain ⟨es, clock, hb, _⟩ := hm
  rcases h.2 with ⟨rfl, _⟩ | ⟨g, cap, cur, rfl, _, hg, _⟩
  · simp [Value.ownBlock]
  · intro he
    simp only [Value.ownBlock, Option.some.injEq] at he
    subst he
    rw [hg] at hb
    cases hb

structure GInv (w : World) (base vb K : Nat) (ss : List Bs) (V : Nat → Value) (Dg : DataW Unit) : Prop where
  own : w.ownsMap Tryd.prog 3 sliceElem vb K Dg
  hasIff : ∀ c : Nat, Maps.has Dg (.int .i64 (c : Int)) = decide (grp ss c ≠ [])
  at_ : ∀ c : Nat, grp ss c ≠ [] → ∃ y, sliceElem (V c) = some (y, []) ∧ ∀ zd, Dg.atKey (.int .i64 (c : Int)) zd = y
  nil : ∀ c, grp ss c = [] → V c = .slice none 0 0
  row : ∀ c, w.ownsRow base 9 1 (V c) (grp ss c).length (strs (grp ss c))
  apart : ∀ c c', c ≠ c' → (V c).ownBlock = none ∨ (V c).ownBlock ≠ (V c').ownBlock

theorem GInv.start (w : World) (base : Nat) : GInv (w.alloc (.map #[] 0)) base w.heap.size 0 [] (fun _ => .slice none 0 0) (.map []) where
  own := World.ownsMap_made _ _ _ _
  hasIff c := by simp [Maps.has, grp]
  at_ c h := absurd rfl h
  nil c _ := rfl
  row c := World.ownsRow_nil _ _ _ _
  apart c c' _ := .inl rfl
theorem GInv.kept {w w' : World} {base vb K : Nat} {ss : List Bs} {V : Nat → Value} {Dg : DataW Unit} {r : Option Nat} (h : GInv w base vb K ss V Dg) (hg : w.grownBy w' r) (hv : some vb ≠ r) (hr : ∀ c, (V c).ownBlock = none ∨ (V c).ownBlock ≠ r) : GInv w' base vb K ss V Dg where
  own := World.ownsMap.kept h.own hg hv
  hasIff := h.hasIff
  at_ := h.at_
  nil := h.nil
  row c := (h.row c).kept hg (hr c)
  apart := h.apart
theorem GInv.val {w : World} {base vb K : Nat} {ss : List Bs} {V : Nat → Value} {Dg : DataW Unit} (h : GInv w base vb K ss V Dg) (c : Nat) {v : Value} {ps : List MemPlace} (hv : sliceElem v = some (Dg.atKey (.int .i64 (c : Int)) (.lit (.bool false)), ps)) : v = V c := by
  by_cases hg : grp ss c = []
  · have hh := h.hasIff c
    rw [show decide (grp ss c ≠ []) = false from by simp [hg]] at hh
    rw [atKey_of_not_has hh] at hv
    rw [h.nil c hg]
    exact sliceElem_inj hv (show sliceElem (.slice none 0 0) = some (.lit (.bool false), []) from rfl) rfl
  · obtain ⟨y, h1, h2⟩ := h.at_ c hg
    rw [h2] at hv
    exact sliceElem_inj hv h1 rfl
theorem GInv.look {w : World} {base vb K : Nat} {ss : List Bs} {V : Nat → Value} {Dg : DataW Unit} (h : GInv w base vb K ss V Dg) (c : Nat) (hc : c ≤ 1000000) : (Instr.lookup 94 (.map (some vb)) (.int .i64 (c : Int)) false).run Tryd.prog w = .ok (V c) w := by
  obtain ⟨v, ps, hrun, hv⟩ := World.ownsMap.lookup h.own lawI Tryd.underlying94 (zeroSl w) (show sliceElem (.slice none 0 0) = some (.lit (.bool false), []) from rfl) (keyI c hc)
  rw [hrun, h.val c hv]
theorem GInv.look2 {w : World} {base vb K : Nat} {ss : List Bs} {V : Nat → Value} {Dg : DataW Unit} (h : GInv w base vb K ss V Dg) (c : Nat) (hc : c ≤ 1000000) : (Instr.lookup 94 (.map (some vb)) (.int .i64 (c : Int)) true).run Tryd.prog w = .ok (.tuple #[V c, .bool (decide (grp ss c ≠ []))]) w := by
  obtain ⟨v, ps, hrun, hv⟩ := World.ownsMap.look_ok h.own lawI Tryd.underlying94 (zeroSl w) (show sliceElem (.slice none 0 0) = some (.lit (.bool false), []) from rfl) (keyI c hc)
  rw [hrun, h.val c hv, h.hasIff]

theorem GInv.step {wA w2 w3 : World} {base vb K cx : Nat} {ss : List Bs} {V : Nat → Value} {Dg : DataW Unit} {x : Bs} {v' : Value} {d : DataW Unit} (h : GInv wA base vb K ss V Dg) (hcx : cntB x = cx) (hcb : cx ≤ 1000000)
    (hown : w2.ownsRow base 9 1 v' ((grp ss cx).length + 1) (strs (grp ss cx) ++ [.string (mkS x)])) (hg : wA.grownBy w2 (V cx).ownBlock)
    (hloc : (wA.grownBy w2 none ∧ ∃ b, v'.ownBlock = some b ∧ wA.heap.size ≤ b) ∨ (∃ b, (V cx).ownBlock = some b ∧ v'.ownBlock = some b))
    (hd : sliceElem v' = some (d, [])) (hm3 : w3.ownsMap Tryd.prog 3 sliceElem vb (K + 1) (Dg.put (.int .i64 (cx : Int)) d)) (hg3 : w2.grownBy w3 (some vb)) :
    GInv w3 base vb (K + 1) (ss ++ [x]) (upd V cx v') (Dg.put (.int .i64 (cx : Int)) d) where
  own := hm3
  hasIff c := by
    rw [grp_snoc]
    by_cases e : c = cx
    · subst e
      rw [has_put_same (World.ownsMap.isMap h.own) (show WideAt.IsKeyLit (.int .i64 (c : Int)) from trivial), hcx]
      simp
    · rw [has_put_other (fun hh => e (by injection hh with _ hh; omega)), h.hasIff, if_neg (by rw [hcx]; exact fun hh => e hh.symm), List.append_nil]
  at_ c hc := by
    by_cases e : c = cx
    · subst e
      exact ⟨d, by rw [upd_same]; exact hd, fun zd => atKey_put_same (World.ownsMap.isMap h.own) (show WideAt.IsKeyLit (.int .i64 (c : Int)) from trivial) _ zd⟩
    · rw [grp_snoc, if_neg (by rw [hcx]; exact fun hh => e hh.symm), List.append_nil] at hc
      obtain ⟨y, h1, h2⟩ := h.at_ c hc
      exact ⟨y, by rw [upd_other _ _ _ _ e]; exact h1, fun zd => by rw [atKey_put_other (fun hh => e (by injection hh with _ hh; omega))]; exact h2 zd⟩
  nil c hc := by
    rw [grp_snoc] at hc
    by_cases e : c = cx
    · subst e
      rw [if_pos hcx] at hc
      simp at hc
    · rw [if_neg (by rw [hcx]; exact fun hh => e hh.symm), List.append_nil] at hc
      rw [upd_other _ _ _ _ e]
      exact h.nil c hc
  row c := by
    have hmap2 : w2.ownsMap Tryd.prog 3 sliceElem vb K Dg := World.ownsMap.kept h.own hg (fun e => row_ne_map (h.row cx) h.own e.symm)
    rw [grp_snoc]
    by_cases e : c = cx
    · subst e
      rw [upd_same, if_pos hcx, List.length_append, List.length_singleton]
      have := hown.kept hg3 (.inr (row_ne_map hown hmap2))
      simpa [strs] using this
    · rw [upd_other _ _ _ _ e, if_neg (by rw [hcx]; exact fun hh => e hh.symm), List.append_nil]
      have h1 := (h.row c).kept hg (h.apart c cx e)
      exact h1.kept hg3 (.inr (row_ne_map h1 hmap2))
  apart c c' hne := by
    have key : ∀ c, c ≠ cx → (V c).ownBlock = none ∨ (V c).ownBlock ≠ v'.ownBlock := by
      intro c e
      rcases h.apart c cx e with h0 | h0
      · exact .inl h0
      · refine .inr fun he => ?_
        rcases hloc with ⟨_, b, hb, hle⟩ | ⟨b, hb, hb'⟩
        · rw [hb] at he
          have := ((h.row c).lt b he).2
          omega
        · exact h0 (by rw [he, hb', hb])
    by_cases e : c = cx
    · subst e
      have e' : c' ≠ c := fun hh => hne hh.symm
      rw [upd_same, upd_other _ _ _ _ e']
      rcases key c' e' with h0 | h0
      · cases hv : v'.ownBlock with
        | none => exact .inl rfl
        | some b => exact .inr (by rw [h0]; simp)
      · exact .inr (fun hh => h0 hh.symm)
    · rw [upd_other _ _ _ _ e]
      by_cases e' : c' = cx
      · subst e'
        rw [upd_same]
        exact key c e
      · rw [upd_other _ _ _ _ e']
        exact h.apart c c' hne

/-- The groups from a count on, the others having been sorted. -/
structure GRest (w : World) (base vb K : Nat) (ss : List Bs) (V : Nat → Value) (Dg : DataW Unit) (c0 : Nat) : Prop where
  own : w.ownsMap Tryd.prog 3 sliceElem vb K Dg
  look2 : ∀ (W : World) (c : Nat), c ≤ 1000000 → W.ownsMap Tryd.prog 3 sliceElem vb K Dg → (Instr.lookup 94 (.map (some vb)) (.int .i64 (c : Int)) true).run Tryd.prog W = .ok (.tuple #[V c, .bool (decide (grp ss c ≠ []))]) W
  row : ∀ c, c0 ≤ c → w.ownsRow base 9 1 (V c) (grp ss c).length (strs (grp ss c))
  apart : ∀ c c', c ≠ c' → (V c).ownBlock = none ∨ (V c).ownBlock ≠ (V c').ownBlock
theorem GInv.rest {w : World} {base vb K : Nat} {ss : List Bs} {V : Nat → Value} {Dg : DataW Unit} (h : GInv w base vb K ss V Dg) : GRest w base vb K ss V Dg 0 where
  own := h.own
  look2 W c hc hW := by
    obtain ⟨v, ps, hrun, hv⟩ := World.ownsMap.look_ok hW lawI Tryd.underlying94 (zeroSl W) (show sliceElem (.slice none 0 0) = some (.lit (.bool false), []) from rfl) (keyI c hc)
    rw [hrun, h.val c hv, h.hasIff]
  row c _ := h.row c
  apart := h.apart
theorem GRest.kept {w w' : World} {base vb K : Nat} {ss : List Bs} {V : Nat → Value} {Dg : DataW Unit} {c0 c1 : Nat} {r : Option Nat} (h : GRest w base vb K ss V Dg c0) (hg : w.grownBy w' r) (hv : some vb ≠ r) (h01 : c0 ≤ c1) (hr : ∀ c, c1 ≤ c → (V c).ownBlock = none ∨ (V c).ownBlock ≠ r) : GRest w' base vb K ss V Dg c1 where
  own := World.ownsMap.kept h.own hg hv
  look2 := h.look2
  row c hc := (h.row c (Nat.le_trans h01 hc)).kept hg (hr c hc)
  apart := h.apart

theorem filter_lt_succ (ss : List Bs) (c : Nat) : (ss.filter (fun s => decide (cntB s < c)) ++ grp ss c).Perm (ss.filter fun s => decide (cntB s < c + 1)) := by
  induction ss with
  | nil => exact List.Perm.nil
  | cons x ss ih =>
    unfold grp at ih ⊢
    rw [List.filter_cons, List.filter_cons, List.filter_cons]
    by_cases h1 : cntB x < c
    · have h2 : ¬ cntB x = c := by omega
      have h3 : cntB x < c + 1 := by omega
      simp only [h1, h2, h3, decide_true, if_true, beq_iff_eq, if_false, List.cons_append]
      exact ih.cons x
    · by_cases h2 : cntB x = c
      · have h3 : cntB x < c + 1 := by omega
        subst h2
        simp only [Nat.lt_irrefl, decide_false, Bool.false_eq_true, if_false, beq_self_eq_true, if_true, Nat.lt_succ_self, decide_true]
        exact List.perm_middle.trans (ih.cons x)
      · have h3 : ¬ cntB x < c + 1 := by omega
        simp only [h1, h3, h2, decide_false, beq_iff_eq, Bool.false_eq_true, if_false]
        exact ih

theorem PObj.below {w w' : World} {pb mb B : Nat} (h : PObj w pb mb) (hb : Below B w w') (hlt : pb < B) : PObj w' pb mb := (hb.block pb hlt).trans h
theorem PMap.below {w w' : World} {mb n B : Nat} {D : DataW Unit} (h : PMap w mb n D) (hb : Below B w w') (hlt : mb < B) : PMap w' mb n D := by
  obtain ⟨es, clock, h1, h2⟩ := h
  exact ⟨es, clock, (hb.block mb hlt).trans h1, h2⟩

theorem infoStrO : (Tryd.prog.info? 9).map (fun i => (i.zero, i.size, i.bytes)) = some (some (.string ⟨#[]⟩), 1, 16) := by kernel_rfl
set_option maxHeartbeats 2000000 in
set_option maxRecDepth 100000 in
theorem inOrder (pb mb n : Nat) (D : DataW Unit) (w : World) (ho : PObj w pb mb) (hm : PMap w mb n D) (hn : n ≤ 12) (hsz : 0 < Maps.size D) (hK : ∀ s : Bs, Maps.has D (.string s) = true → s.length ≤ 100) :
    Calls Tryd.prog 42 #[.pointer (some ⟨pb, 0, none⟩)] w fun e w' => ∃ v o, e = .returned v ∧ w'.ownsRow w.heap.size 9 1 v o.length (strs o) ∧ o.Nodup ∧ (∀ s, s ∈ o ↔ Maps.has D (.string s) = true) ∧ o.Pairwise (fun a b => cntB a ≤ cntB b) ∧ Below w.heap.size w w' := by
  have HL := Lib.hid (lenItems pb mb n D)
  have HO := Lib.hid ho
  have HM := Lib.hid hm
  have hmm := @run_makeMap Tryd.prog
  have hz1 : ((Maps.size D : Int) == 0) = false := by simpa using (show Maps.size D ≠ 0 by omega)
  have HK := Lib.hid hK
  have hszn := World.ownsMap.size_le hm
  clear ho hm hK
  go_enter Tryd.func42, Tryd.ntmps42
  go_wp2_with fail
  refine (HL.out w HO.out HM.out).mono ?_
  rintro e w' ⟨rfl, rfl⟩
  have hi0 := infoStrO
  obtain ⟨i0, hi, hz0, hz1', hz2⟩ := info_parts hi0
  clear hi0
  go_wp2_with fail
  have hlt := World.ownsMap.lt HM.out
  have hmp := mapItems pb mb n D (w'.alloc (.map #[] 0)) (PObj.kept HO.out (World.grownBy_alloc w' _ none) (by simp)) (World.ownsMap.alloc HM.out _) (by omega) hsz
  have hs1 : (w'.alloc (.map #[] 0)).heap.size = w'.heap.size + 1 := by simp
  rw [hs1] at hmp
  refine hmp.mono ?_
  clear hmp
  rintro e w1 ⟨rfl, hm1, hg1⟩
  have hGI := (GInv.start w' w'.heap.size).kept hg1 (by simp) (fun c => .inl rfl)
  have HGI := Lib.hid hGI
  have HM1 := Lib.hid hm1
  have HB1 := Lib.hid (((Below.refl w'.heap.size w').alloc (Nat.le_refl _) (.map #[] 0)).grown hg1 (by simp) (fun j hj => by cases hj))
  have hsz1 : w'.heap.size + 1 ≤ w1.heap.size := by have := hg1.size; rw [hs1] at this; exact this
  clear hGI hm1 hg1
  go_wp2_with (first
    | (at_range; refine wpList_range_own _ rfl _ 95 rfl 9 90 lawS Tryd.underlying95 _ (w'.heap.size + 1) _ _ rfl HM1.out ?_; intro w0 hrg0 hg0 hs0)
    | go_in)
  go_frame
  have HG0 := Lib.hid (HGI.out.kept hg0 (by simp) (fun c => .inl rfl))
  have HB0 := Lib.hid (HB1.out.grown hg0 (by omega) (fun j hj => by cases hj))
  have HRG0 := Lib.hid hrg0
  clear hrg0 hg0 hs0
  go_loopw [4] (fun v4 wr => ∃ (left : Lit → Bool) (cnt mx : Nat) (ss : List Bs) (V : Nat → Value) (Dg : DataW Unit), v4 = .int .i64 mx ∧ mx ≤ 1000 ∧ ss.length + cnt ≤ Maps.size D ∧ Hid (wr.ranges Tryd.prog 9 ptrElem (w'.heap.size + 1) w1.heap.size (Maps.size D) D left cnt) ∧ Hid (Collected D left ss) ∧ Hid (GInv wr w'.heap.size w'.heap.size ss.length ss V Dg) ∧ Hid (∀ s ∈ ss, cntB s ≤ mx) ∧ Hid (Below w'.heap.size w' wr))
    (fun _ wr => wr.rangeLeft (w'.heap.size + 1) w1.heap.size)
  case atStart =>
    exact ⟨_, _, 0, [], _, _, rfl, by omega, by simp, HRG0, Collected.start D, HG0, (show ∀ s ∈ ([] : List Bs), _ from fun s hs => by cases hs), HB0⟩
  case round =>
    obtain ⟨left, cnt, mx, ss, V, Dg, rfl, hmx, hcs, hrg, hC, hG, hMX, hB⟩ := hrel
    go_wp2_with (first
      | (at_next; refine wpList_next_ranges _ rfl _ rfl 9 lawS ptrElem encStr (fun o : Option Nat => Value.pointer (o.map fun b => ⟨b, 0, none⟩)) (fun key kl h => strS h) ptrV (w'.heap.size + 1) w1.heap.size _ D left cnt rfl hrg.out ?_ ?_)
      | go_in)
    · intro hc0 hl0
      have HL0 := Lib.hid hl0
      clear hl0
      go_wp2_with fail
      refine (HL.out wr (PObj.below HO.out hB.out (PObj.lt HO.out)) (PMap.below HM.out hB.out hlt)).mono ?_
      rintro e w9 ⟨rfl, hw9⟩
      subst hw9
      have hb0 := hB.out.size
      clear hrg
      go_wp2_with (at_make; refine wpList_make_own _ rfl _ _ 22 rfl w'.heap.size 9 i0 (.string ⟨#[]⟩) 1 Tryd.underlying22 hi hz0 hz1' .i64 .i64 _ (Maps.size D) rfl rfl rfl (by rw [hz2]; omega) (by unfold maxLen; omega) hb0 ?_; intro w10 hown0 hg10)
      have HR10 := Lib.hid (hG.out.rest.kept (c1 := 0) hg10 (by simp) (Nat.le_refl _) (fun c _ => Classical.em _))
      have HB10 := Lib.hid (hB.out.grown hg10 hb0 (fun j hj => by cases hj))
      have HO10 := Lib.hid hown0
      have hap0 : ∀ c', 0 ≤ c' → (V c').ownBlock = none ∨ (V c').ownBlock ≠ (Value.slice (some ⟨w9.heap.size, 0, none⟩) 0 (Maps.size D)).ownBlock := fun c' _ => by
        refine .inr fun e => ?_
        have := (hG.out.row c').lt w9.heap.size (by rw [e]; rfl)
        omega
      have HAP0 := Lib.hid hap0
      clear hown0 hg10 hap0 hG hB
      go_loopg [7, 8] (mx + 1) (fun g v7 v8 wr => ∃ (c : Nat) (o : List Bs), c + g = mx + 1 ∧ v8 = .int .i64 c ∧ o.length ≤ ss.length ∧ Hid (wr.ownsRow w'.heap.size 9 1 v7 o.length (strs o)) ∧ Hid (o.Perm (ss.filter fun s => decide (cntB s < c))) ∧ Hid (o.Pairwise fun a b => cntB a ≤ cntB b) ∧ Hid (GRest wr w'.heap.size w'.heap.size ss.length ss V Dg c) ∧ Hid (∀ c', c ≤ c' → (V c').ownBlock = none ∨ (V c').ownBlock ≠ v7.ownBlock) ∧ Hid (Below w'.heap.size w' wr))
      case atStart =>
        refine ⟨0, [], by omega, rfl, Nat.zero_le _, HO10, ?_, List.Pairwise.nil, HR10, HAP0, HB10⟩
        show List.Perm _ _
        rw [List.filter_eq_nil_iff.2 (by intro a _; simp)]
      case round =>
        obtain ⟨c, o, hcg, rfl, hol, hO, hP, hPW, hR, hAP, hB⟩ := hrel
        cases gk with
        | zero =>
          have hcm : c = mx + 1 := by omega
          subst hcm
          have hfull : ss.filter (fun s => decide (cntB s < mx + 1)) = ss := List.filter_eq_self.2 (fun s hs => by have := hMX.out s hs; simp; omega)
          have HP2 : o.Perm ss := by have := hP.out; rw [hfull] at this; exact this
          go_wp2_with fail
          go_ret
          refine ⟨_, rfl, o, hO.out, HP2.nodup_iff.2 hC.out.1, fun s => ?_, hPW.out, hB.out⟩
          rw [HP2.mem_iff, hC.out.2, HL0.out]
          simp
        | succ k =>
          have hck : c ≤ mx := by omega
          have hlook := hR.out.look2 _ c (by omega) hR.out.own
          have hwc : ((c : Int) ≤ (mx : Int)) = True := eq_true (by omega)
          by_cases hge : grp ss c = []
          · rw [show decide (grp ss c ≠ []) = false from by simp [hge]] at hlook
            go_wp2_with fail
            go_roundg k
            case rel =>
              refine ⟨c + 1, o, by omega, by simp, hol, hO, ?_, hPW, ?_, ?_, hB⟩
              · show List.Perm _ _
                have := filter_lt_succ ss c
                rw [hge, List.append_nil] at this
                exact hP.out.trans this
              · exact ⟨hR.out.own, hR.out.look2, fun c' hc' => hR.out.row c' (by omega), hR.out.apart⟩
              · show ∀ c', _
                exact fun c' hc' => hAP.out c' (by omega)
            case measure => omega
          · rw [show decide (grp ss c ≠ []) = true from by simp [hge]] at hlook
            have hpos : 0 < (grp ss c).length := List.length_pos_iff.2 hge
            have hgl := grp_len ss c
            have hform : ∃ g cap, V c = .slice (some ⟨g, 0, none⟩) (grp ss c).length cap := by
              rcases (hR.out.row c (Nat.le_refl _)).2 with ⟨_, h0⟩ | ⟨g, cap, _, hv, _⟩
              · omega
              · exact ⟨g, cap, hv⟩
            obtain ⟨g, cap, hVc⟩ := hform
            rw [hVc] at hlook
            have HROW := Lib.hid (hR.out.row c (Nat.le_refl _))
            rw [hVc] at HROW
            have hgb : (V c).ownBlock = some g := by rw [hVc]; rfl
            have hne7 := hAP.out c (Nat.le_refl _)
            rw [hgb] at hne7
            have HST := Lib.hid (sortStrs g cap w'.heap.size (grp ss c) wr HROW.out (by omega))
            have HGB := Lib.hid hgb
            have HN7 := Lib.hid hne7
            clear hne7 hgb hVc
            go_wp2_with fail
            refine HST.out.mono ?_
            rintro e w2 ⟨rfl, ts, hp, hown2, hg2⟩
            have htl : ts.length = (grp ss c).length := hp.length_eq
            have HR2 := Lib.hid (hR.out.kept (c1 := c + 1) hg2 (fun e => row_ne_map HROW.out hR.out.own e.symm) (by omega) (fun c' hc' => by
              rcases hR.out.apart c' c (by omega) with h0 | h0
              · exact .inl h0
              · exact .inr (by rw [← HGB.out]; exact h0)))
            have HO2 := Lib.hid (hO.out.kept hg2 (by
              rcases HN7.out with h0 | h0
              · cases h0
              · cases hv : u7.ownBlock with
                | none => exact .inl rfl
                | some b => exact .inr (fun e => h0 (by rw [hv, e]))))
            have HB2 := Lib.hid (hB.out.grown hg2 hB.out.size (fun j hj => by cases hj; exact (HROW.out.lt g rfl).1))
            have HOW2 := Lib.hid hown2
            have HTP := Lib.hid hp
            have hb2 := HB2.out.size
            clear hown2 hg2 hp
            go_wp2_with (at_builtin; refine wpList_append_keep _ rfl _ _ 22 rfl w'.heap.size 9 i0 (.string ⟨#[]⟩) 1 16 Tryd.underlying22 hi hz0 hz1' hz2 rfl (by decide) u7 o.length (strs o) rfl HO2.out ⟨g, 0, none⟩ (grp ss c).length cap hpos (strs ts) rfl (by simp [strs, htl]) (HOW2.out.cells (g := g) rfl) (strs_one ts) (by omega) (by decide) hb2 ?_; intro v' w4 hown4 hg4 hkeep4 hloc4; have HX := Lib.hid (And.intro hown4 (And.intro hg4 hloc4)); clear hown4 hg4 hkeep4 hloc4)
            go_roundg k
            case rel =>
              obtain ⟨hown4, hg4, hloc4⟩ := HX.out
              refine ⟨c + 1, o ++ ts, by omega, by simp, ?_, ?_, ?_, ?_, ?_, ?_, ?_⟩
              · have h1 := hP.out.length_eq
                have h2 := (filter_lt_succ ss c).length_eq
                have h3 := List.length_filter_le (fun s => decide (cntB s < c + 1)) ss
                rw [List.length_append] at h2 ⊢
                omega
              · show World.ownsRow _ _ _ _ _ _ _
                rw [List.length_append, htl]
                have : strs (o ++ ts) = strs o ++ strs ts := by simp [strs]
                rw [this]
                exact hown4
              · show List.Perm _ _
                exact (hP.out.append HTP.out).trans (filter_lt_succ ss c)
              · show List.Pairwise _ _
                rw [List.pairwise_append]
                have hts : ∀ t ∈ ts, cntB t = c := fun t ht => by
                  have := HTP.out.mem_iff.1 ht
                  simpa using (List.mem_filter.1 this).2
                refine ⟨hPW.out, List.pairwise_iff_getElem.2 (fun i j hi hj _ => by rw [hts _ (List.getElem_mem hi), hts _ (List.getElem_mem hj)]; exact Nat.le_refl _), fun a ha b hb => ?_⟩
                have := (List.mem_filter.1 (hP.out.mem_iff.1 ha)).2
                rw [hts b hb]
                have : cntB a < c := by simpa using this
                omega
              · exact HR2.out.kept (c1 := c + 1) hg4 (fun e => row_ne_map HO2.out HR2.out.own e.symm) (Nat.le_refl _) (fun c' hc' => hAP.out c' (by omega))
              · show ∀ c', _
                intro c' hc'
                rcases hloc4 with ⟨_, b, hb, hle⟩ | ⟨b, hb, hb'⟩
                · refine .inr fun e => ?_
                  have := ((HR2.out.row c' hc').lt b (by rw [e, hb])).2
                  omega
                · rw [hb', ← hb]
                  exact hAP.out c' (by omega)
              · exact HB2.out.grown hg4 hb2 (fun j hj => (HO2.out.lt j hj).1)
            case measure => omega
    · intro x o kl yd yp w2 cnt1 hkey hlk hv hat hrg1 hlt' hg1 hs1 hen
      obtain ⟨x', ex, rfl, hxl⟩ := Maps.keyOf_str Tryd.underlying9 hkey
      obtain rfl : x = x' := encStr_inj ex
      have hx100 : x.length ≤ 100 := HK.out x (has_true_of_atKey hat)
      have HC1 := Lib.hid (hC.out.step hlk hat)
      have HG2 := Lib.hid (hG.out.kept hg1 (fun e => by have := Option.some.inj e; omega) (fun c => .inr (fun e => row_ne_iter (hG.out.row c) hrg.out e.symm)))
      have HR2 := Lib.hid hrg1
      have HB2 := Lib.hid (hB.out.grown hg1 hB.out.size (fun j hj => by cases hj; omega))
      have HLT := Lib.hid hlt'
      have HZC := Lib.hid (show Calls Tryd.prog 59 #[encStr x, .string ⟨#[125]⟩] w2 _ from zzCount (mkS x) w2 (by rw [mkS_size]; omega))
      have hcx := cntB_le x
      have hcx6 : cntB x ≤ 1000000 := by omega
      have hlook := HG2.out.look (cntB x) hcx6
      have hgl : (grp ss (cntB x)).length + 1 ≤ 1000000 := by have := grp_len ss (cntB x); omega
      clear hkey hlk hv hat hrg1 hlt' hg1 hs1 ex
      by_cases hgt : mx < cntB x
      · have hgi : ((cntB x : Int) > (mx : Int)) = True := eq_true (by omega)
        have hgi2 : ((mx : Int) < (cntB x : Int)) = True := eq_true (by omega)
        go_wp2_with fail
        refine HZC.out.mono ?_
        rintro e w3 ⟨rfl, rfl⟩
        rw [show cntB (mkS x).data.toList = cntB x from by rw [mkS_toList]]
        have hb0 := HB2.out.size
        go_wp2_with (first
          | (at_builtin; refine wpList_append_keep _ rfl _ _ 22 rfl w'.heap.size 9 i0 (.string ⟨#[]⟩) 1 16 Tryd.underlying22 hi hz0 hz1' hz2 rfl (by decide) (V (cntB x)) _ (strs (grp ss (cntB x))) rfl ((HG2.out.row (cntB x)).alloc _) ⟨_, 0, none⟩ 1 1 (by decide) [.string (mkS x)] rfl rfl (cell_one_new _ _ _) (by intro u hu; simp at hu; subst hu; rfl) hgl (by decide) (by simp; omega) ?_; intro v' w4 hown4 hg4 hkeep4 hloc4; obtain ⟨d, hd⟩ := sliceElem_own hown4)
          | (at_mapUpdate; refine wpList_mapUpdate_own _ rfl _ _ _ 94 rfl 3 22 lawI Tryd.underlying94 _ w'.heap.size _ Dg rfl (World.ownsMap.kept (World.ownsMap.alloc HG2.out.own _) hg4 (fun e => row_ne_map (HG2.out.row (cntB x)) HG2.out.own e.symm)) (by unfold maxLen; omega) _ _ _ rfl rfl (keyI _ hcx6) d [] hd ?_; intro w5 hm5 hg5; have HX := Lib.hid (And.intro hown4 (And.intro hg4 (And.intro hloc4 (And.intro hd (And.intro hm5 hg5))))); clear hown4 hg4 hkeep4 hloc4 hd hm5 hg5))
        obtain ⟨hown4, hg4, hloc4, hd, hm5, hg5⟩ := HX.out
        have hGA := HG2.out.kept (World.grownBy_alloc w3 (.cells #[.string (mkS x)] 9) none) (by simp) (fun c => Classical.em _)
        have hNew := hGA.step rfl hcx6 hown4 hg4 hloc4 hd hm5 hg5
        have hrg2 := ((HR2.out.alloc (.cells #[.string (mkS x)] 9)).kept hg4 (fun e => row_ne_map (HG2.out.row (cntB x)) HR2.out.owns e.symm) (fun e => row_ne_iter (HG2.out.row (cntB x)) HR2.out e)).kept hg5 (fun e => by have := Option.some.inj e; omega) (fun e => by have := Option.some.inj e; omega)
        have hbb := ((HB2.out.alloc hb0 (.cells #[.string (mkS x)] 9)).grown hg4 (by simp; omega) (fun j hj => ((HG2.out.row (cntB x)).lt j hj).1)).grown hg5 (by have := hg4.size; simp at this; omega) (fun j hj => by cases hj; exact Nat.le_refl _)
        refine ⟨⟨_, cnt1, cntB x, ss ++ [x], upd V (cntB x) v', Dg.put (.int .i64 (cntB x : Int)) d, rfl, by omega, by have := HLT.out; rw [List.length_append, List.length_singleton]; omega, hrg2, HC1, ?_, ?_, hbb⟩, ?_⟩
        · rw [List.length_append, List.length_singleton]
          exact hNew
        · intro s hs
          rcases List.mem_append.1 hs with hs | hs
          · have := hMX.out s hs; omega
          · rw [List.mem_singleton.1 hs]; omega
        · rw [hrg2.left_eq, hrg.out.left_eq]; exact HLT.out
      · have hgi : ((cntB x : Int) > (mx : Int)) = False := eq_false (by omega)
        have hgi2 : ((mx : Int) < (cntB x : Int)) = False := eq_false (by omega)
        go_wp2_with fail
        refine HZC.out.mono ?_
        rintro e w3 ⟨rfl, rfl⟩
        rw [show cntB (mkS x).data.toList = cntB x from by rw [mkS_toList]]
        have hb0 := HB2.out.size
        go_wp2_with (first
          | (at_builtin; refine wpList_append_keep _ rfl _ _ 22 rfl w'.heap.size 9 i0 (.string ⟨#[]⟩) 1 16 Tryd.underlying22 hi hz0 hz1' hz2 rfl (by decide) (V (cntB x)) _ (strs (grp ss (cntB x))) rfl ((HG2.out.row (cntB x)).alloc _) ⟨_, 0, none⟩ 1 1 (by decide) [.string (mkS x)] rfl rfl (cell_one_new _ _ _) (by intro u hu; simp at hu; subst hu; rfl) hgl (by decide) (by simp; omega) ?_; intro v' w4 hown4 hg4 hkeep4 hloc4; obtain ⟨d, hd⟩ := sliceElem_own hown4)
          | (at_mapUpdate; refine wpList_mapUpdate_own _ rfl _ _ _ 94 rfl 3 22 lawI Tryd.underlying94 _ w'.heap.size _ Dg rfl (World.ownsMap.kept (World.ownsMap.alloc HG2.out.own _) hg4 (fun e => row_ne_map (HG2.out.row (cntB x)) HG2.out.own e.symm)) (by unfold maxLen; omega) _ _ _ rfl rfl (keyI _ hcx6) d [] hd ?_; intro w5 hm5 hg5; have HX := Lib.hid (And.intro hown4 (And.intro hg4 (And.intro hloc4 (And.intro hd (And.intro hm5 hg5))))); clear hown4 hg4 hkeep4 hloc4 hd hm5 hg5))
        obtain ⟨hown4, hg4, hloc4, hd, hm5, hg5⟩ := HX.out
        have hGA := HG2.out.kept (World.grownBy_alloc w3 (.cells #[.string (mkS x)] 9) none) (by simp) (fun c => Classical.em _)
        have hNew := hGA.step rfl hcx6 hown4 hg4 hloc4 hd hm5 hg5
        have hrg2 := ((HR2.out.alloc (.cells #[.string (mkS x)] 9)).kept hg4 (fun e => row_ne_map (HG2.out.row (cntB x)) HR2.out.owns e.symm) (fun e => row_ne_iter (HG2.out.row (cntB x)) HR2.out e)).kept hg5 (fun e => by have := Option.some.inj e; omega) (fun e => by have := Option.some.inj e; omega)
        have hbb := ((HB2.out.alloc hb0 (.cells #[.string (mkS x)] 9)).grown hg4 (by simp; omega) (fun j hj => ((HG2.out.row (cntB x)).lt j hj).1)).grown hg5 (by have := hg4.size; simp at this; omega) (fun j hj => by cases hj; exact Nat.le_refl _)
        refine ⟨⟨_, cnt1, mx, ss ++ [x], upd V (cntB x) v', Dg.put (.int .i64 (cntB x : Int)) d, rfl, by omega, by have := HLT.out; rw [List.length_append, List.length_singleton]; omega, hrg2, HC1, ?_, ?_, hbb⟩, ?_⟩
        · rw [List.length_append, List.length_singleton]
          exact hNew
        · intro s hs
          rcases List.mem_append.1 hs with hs | hs
          · have := hMX.out s hs; omega
          · rw [List.mem_singleton.1 hs]; omega
        · rw [hrg2.left_eq, hrg.out.left_eq]; exact HLT.out
end Go.Proofs.YtpdnjgbcnnjdiaaDoor
