/- impl.Match. -/
import Derived.Test.YtpdnjgbcnnjdiaaGreatDoorImpl
import Derived.Lib.LaidTab
import Derived.Deep.RegionHeld3
namespace Go.Proofs.YtpdnjgbcnnjdiaaGreatDoor
open Go Go.RowKit
set_option linter.unusedVariables false
set_option linter.unusedSimpArgs false

/-- The patterns that have been added: their tokens, their texts. -/
abbrev PL := List (List Tok × Bs)
def SL (L : PL) (q : Path) : Prop := q = [] ∨ ∃ e ∈ L, q <+: e.1
def VL (L : PL) : Path → Option Bs := L.foldl (fun V e => upd V e.1 (some e.2)) (fun _ => none)
theorem VL_snoc (L : PL) (e : List Tok × Bs) : VL (L ++ [e]) = upd (VL L) e.1 (some e.2) := by simp [VL]
theorem SL_snoc (L : PL) (e : List Tok × Bs) : SL (L ++ [e]) = fun q => SL L q ∨ q <+: e.1 := by
  funext q
  apply propext
  unfold SL
  constructor
  · rintro (h | ⟨x, hx, h⟩)
    · exact .inl (.inl h)
    · rcases List.mem_append.1 hx with hx | hx
      · exact .inl (.inr ⟨x, hx, h⟩)
      · simp at hx; subst hx; exact .inr h
  · rintro ((h | ⟨x, hx, h⟩) | h)
    · exact .inl h
    · exact .inr ⟨x, List.mem_append_left _ hx, h⟩
    · exact .inr ⟨e, by simp, h⟩
theorem VL_out (L : PL) : ∀ q, ¬ SL L q → VL L q = none := by
  suffices h : ∀ (L : PL) (V : Path → Option Bs) (q : Path), V q = none → (∀ e ∈ L, q ≠ e.1) → L.foldl (fun V e => upd V e.1 (some e.2)) V q = none by
    intro q hq
    exact h L _ q rfl (fun e he hqe => hq (.inr ⟨e, he, by rw [hqe]; exact List.prefix_rfl⟩))
  intro L
  induction L with
  | nil => intro V q h _; exact h
  | cons e L ih =>
    intro V q h hne
    exact ih _ q (by show upd V e.1 _ q = none; rw [upd_other _ _ _ _ (hne e (by simp))]; exact h) (fun x hx => hne x (by simp [hx]))

/-- The patterns are well formed. -/
def Good (L : PL) : Prop := ∀ e ∈ L, ∃ ns, Toks (stripAll e.2) e.1 ns

/-- What a call of impl.Match leaves: the answer of the look-up in some trie that holds the patterns' tokens in order. -/
def IPost (L : PL) (path : Bs) (w : World) (e : Ending) (w' : World) : Prop :=
  Below w.heap.size w w' ∧ ∃ kids : Path → List Tok, (∀ p t, SL L p → (t ∈ kids p ↔ SL L (p ++ [t]))) ∧ (∀ p, Srt (kids p)) ∧
    match look kids (VL L) 101 [] (stripAll path) [] with
    | none => e = .returned (.tuple #[.string ⟨#[]⟩, .slice none 0 0, .bool false, .int .i64 0])
    | some (q, ys) => ∃ v key, VL L q = some key ∧ e = .returned (.tuple #[.string (mkS key), v, .bool true, .int .i64 0]) ∧ w'.ownsRow w.heap.size 9 1 v ys.length (strs ys)

def M0 (N : Nat) : Mem := { kids := fun _ => [], nb := fun _ => N, sv := fun _ => .slice none 0 0, vn := fun _ => .slice none 0 0, own := fun b => if b = N then some ([], false) else none }
theorem rep0 (w : World) (B : Nat) (hB : B ≤ w.heap.size) : Rep (w.alloc (.cells #[.slice none 0 0, .nilIface, .slice none 0 0] 62)) B (SL []) (VL []) (M0 w.heap.size) where
  root := .inl rfl
  kid p t hp := by
    constructor
    · intro h; cases h
    · rintro (h | ⟨e, he, _⟩)
      · have := congrArg List.length h; simp at this
      · cases he
  closed p t h := by
    rcases h with h | ⟨e, he, _⟩
    · have := congrArg List.length h; simp at this
    · cases he
  out p hp := rfl
  node p hp := heap_alloc_new _ _
  row p hp := World.ownsRow_nil _ _ _ _
  ownN p hp := by
    rcases hp with rfl | ⟨e, he, _⟩
    · simp [M0]
    · cases he
  ownR p b hp hb := by simp [M0, Value.ownBlock] at hb
  base p hp := hB
  lt b hb := by
    by_cases h : b = w.heap.size
    · subst h; simp
    · simp [M0, h] at hb

theorem blkc {w : World} {g : Nat} {a : Value} {T : TypeId} (h : w.heap[g]? = some (.cells #[a] T (0, 0))) : w.cell? ⟨g, 0, none⟩ = some a ∧ w.frozen? ⟨g, 0, none⟩ = false := by simp [World.cell?, World.frozen?, h]
theorem step_append_gen {P : Program} {ops : Array Oper} {o : Oper} {a : Act} {w : World} {K : Act → World → Prop} {Q : Exit → Act → World → Prop} {E : Prop} (hgd : o.guard = none) (s x : Operand) (t : TypeId)
    (ho : o.op = .call { callee := .builtin .append, args := #[s, x], argTypes := #[t, t] })
    (base : Nat) (e : TypeId) (i : TypeInfo) (z : Value) (size bytes : Nat) (ht : P.underlying t = some (.slice e)) (hi : P.info? e = some i) (hz : i.zero = some z)
    (hsize : i.size = size) (hby : i.bytes = bytes) (hzs : z.cells.size = size) (hsz : 0 < size)
    (v : Value) (n : Nat) (xs : List Value) (hs : a.eval s = v) (hown : w.ownsRow base e size v n xs)
    (ad : Addr) (m c : Nat) (news : List Value) (hx : a.eval x = .slice (some ad) m c) (hl : news.length = m * size) (hnews : ∀ j u, news[j]? = some u → w.cell? (ad.add j) = some u) (h1 : ∀ u ∈ news, u.oneCell' = true)
    (h63 : n + m ≤ maxLen) (hbytes : (n + m) * bytes ≤ 140737488355328) (hbase : base ≤ w.heap.size)
    (h : ∀ v' w', w'.ownsRow base e size v' (n + m) (xs ++ news) → w.grownBy w' v.ownBlock → K (a.put o.dst v') w') :
    if Region.wanted o (yielded ops a.tmps) = true then Oper.wp P o a w K Q else E := by
  have hw : Region.wanted o (yielded ops a.tmps) = true := by simp [Region.wanted, hgd]
  rw [if_pos hw]
  obtain ⟨v', w', hr, h2, h3, _⟩ := run_append_own (P := P) w base t o.type e i z size bytes ht hi hz hsize hby hzs hsz v n xs hown ad m c news hl hnews h1 h63 hbytes hbase
  unfold Oper.wp
  simp [execOp, ho, resolve, invoke, builtin, hs, hx, hr, Result.andThen]
  exact h v' w' h2 h3
theorem step_append_none {P : Program} {ops : Array Oper} {o : Oper} {a : Act} {w : World} {K : Act → World → Prop} {Q : Exit → Act → World → Prop} {E : Prop} (hgd : o.guard = none) (s x : Operand) (t : TypeId)
    (ho : o.op = .call { callee := .builtin .append, args := #[s, x], argTypes := #[t, t] })
    (base : Nat) (e : TypeId) (i : TypeInfo) (size : Nat) (ht : P.underlying t = some (.slice e)) (hi : P.info? e = some i)
    (v : Value) (n : Nat) (xs : List Value) (hs : a.eval s = v) (hown : w.ownsRow base e size v n xs) (hx : a.eval x = .slice none 0 0) (h : K (a.put o.dst v) w) :
    if Region.wanted o (yielded ops a.tmps) = true then Oper.wp P o a w K Q else E := by
  have hw : Region.wanted o (yielded ops a.tmps) = true := by simp [Region.wanted, hgd]
  rw [if_pos hw]
  have hr := run_append_owned_none (P := P) w base t o.type e i size ht hi v n xs hown
  unfold Oper.wp
  simp [execOp, ho, resolve, invoke, builtin, hs, hx, hr, Result.andThen]
  exact h
theorem strs_one (l : List Bs) : ∀ u ∈ strs l, u.oneCell' = true := by
  intro u hu
  simp only [strs, List.mem_map] at hu
  obtain ⟨b, _, rfl⟩ := hu
  rfl
/-- A set of one cell's block. -/
theorem blks_kept {w w1 : World} {g : Nat} {a : Value} {T : TypeId} (hg : w.grownBy w1 none) (h : w.heap[g]? = some (.cells #[a] T (0, 0))) : w1.heap[g]? = some (.cells #[a] T (0, 0)) :=
  (hg.block g (Array.getElem?_eq_some_iff.1 h).1 (by simp)).trans h

theorem assertStr (x : ByteArray) (w : World) : (Instr.typeAssert (.iface 9 (.string x)) 20 9 true).run Tryz.prog w = .ok (.tuple #[.string x, .bool true]) w := by kernel_rfl

theorem of_drew {w w1 : World} {r : Option Nat} (g : w.drew.grownBy w1 r) : w.grownBy w1 r := ⟨g.os, g.tape, g.output, g.size, g.block⟩
theorem own_lower {w : World} {base base' : Nat} {e : TypeId} {size : Nat} {v : Value} {n : Nat} {xs : List Value} (h : w.ownsRow base e size v n xs) (hb : base' ≤ base) : w.ownsRow base' e size v n xs := by
  refine ⟨h.1, ?_⟩
  rcases h.2 with hn | ⟨g, cap, cur, hv, hg, rest⟩
  · exact .inl hn
  · exact .inr ⟨g, cap, cur, hv, by omega, rest⟩
theorem own_set {w : World} {base : Nat} {e : TypeId} {size : Nat} {v : Value} {n : Nat} {xs : List Value} (h : w.ownsRow base e size v n xs) (a : Addr) (u : Value) (ha : a.block < base) : (w.setCell a u).ownsRow base e size v n xs :=
  h.kept (row := some a.block) ⟨rfl, rfl, rfl, by simp, fun k _ hk => Below.heap_setCell _ _ _ k (fun e => hk (by rw [e]))⟩ (.inr (fun e => by have := (h.lt _ e).1; omega))

theorem look_len (kids : Path → List Tok) (V : Path → Option Bs) : ∀ n p r vs q ys, look kids V n p r vs = some (q, ys) → ys.length ≤ vs.length + n := by
  intro n
  induction n with
  | zero => intro p r vs q ys h; simp [look] at h
  | succ n ih =>
    intro p r vs q ys h
    simp only [look] at h
    split at h
    · simp only [Option.some.injEq, Prod.mk.injEq] at h
      rw [← h.2]
      omega
    · obtain ⟨t, _, h'⟩ := List.exists_of_findSome?_eq_some h
      unfold tryTok at h'
      split at h'
      · split at h'
        · have := ih _ _ _ _ _ h'; omega
        · split at h'
          · have := ih _ _ _ _ _ h'; omega
          · cases h'
      · split at h'
        · have := ih _ _ _ _ _ h'; simp at this; omega
        · split at h'
          · split at h'
            · simp only [Option.some.injEq, Prod.mk.injEq] at h'
              rw [← h'.2]
              simp
            · cases h'
          · cases h'

theorem four_blocks (w : World) (a b c d : Obj) : ((((w.alloc a).alloc b).alloc c).alloc d).heap[w.heap.size]? = some a ∧ ((((w.alloc a).alloc b).alloc c).alloc d).heap[w.heap.size + 1]? = some b ∧ ((((w.alloc a).alloc b).alloc c).alloc d).heap[w.heap.size + 1 + 1]? = some c ∧ ((((w.alloc a).alloc b).alloc c).alloc d).heap[w.heap.size + 1 + 1 + 1]? = some d := by
  have h1 := heap_alloc_new w a
  have h2 := heap_alloc_new (w.alloc a) b
  have h3 := heap_alloc_new ((w.alloc a).alloc b) c
  have h4 := heap_alloc_new (((w.alloc a).alloc b).alloc c) d
  have s1 : (w.alloc a).heap.size = w.heap.size + 1 := by simp
  have s2 : ((w.alloc a).alloc b).heap.size = w.heap.size + 1 + 1 := by simp
  have s3 : (((w.alloc a).alloc b).alloc c).heap.size = w.heap.size + 1 + 1 + 1 := by simp
  rw [s1] at h2
  rw [s2] at h3
  rw [s3] at h4
  refine ⟨?_, ?_, ?_, h4⟩
  · rw [heap_alloc_old _ _ (by omega), heap_alloc_old _ _ (by omega), heap_alloc_old _ _ (by omega), h1]
  · rw [heap_alloc_old _ _ (by omega), heap_alloc_old _ _ (by omega), h2]
  · rw [heap_alloc_old _ _ (by omega), h3]

set_option maxHeartbeats 4000000 in
set_option maxRecDepth 100000 in
theorem implMatch (A : Option Addr) (c : Nat) (L : PL) (w : World) (s : ByteArray) (hs : s.size ≤ 1000) (hL : L.length ≤ 12) (hG : Good L) (hlen : ∀ e ∈ L, e.2.length ≤ 100)
    (hA : ∀ k (h : k < L.length), ∃ ad, A = some ad ∧ w.cell? (ad.add k) = some (.string (mkS (L[k]).2)))
    (hTab : Hid (∀ W, Below w.heap.size w W → Lib.TabIs Tryz.prog W "strings.asciiSpace" .u8 Lib.asciiSpaceTab)) :
    Calls Tryz.prog 15 #[.slice A L.length c, .string s] w (IPost L s.data.toList w) := by
  suffices hsuff : ∀ Q : Ending → World → Prop, Hid (∀ e w', IPost L s.data.toList w e w' → Q e w') → Calls Tryz.prog 15 #[.slice A L.length c, .string s] w Q from hsuff _ (fun _ _ h => h)
  intro Q HQ
  have hmf : ∀ (fn : Fn) (first cap : Array Value) (w : World), (Instr.makeFunc fn first cap).run Tryz.prog w = .ok (.func fn first cap) w := fun _ _ _ _ => rfl
  have HA := Lib.hid hA
  have HGd := Lib.hid hG
  have HLN := Lib.hid hlen
  clear hA hG hlen
  go_enter_defers Tryz.func15, Tryz.ntmps15
  go_wp2_with fail
  have hw4 : ∃ W4 : World, W4 = ((((w.alloc (.cells #[.string ⟨#[]⟩] 9)).alloc (.cells #[.slice none 0 0] 22)).alloc (.cells #[.bool false] 4)).alloc (.cells #[.int .i64 0] 3)) := ⟨_, rfl⟩
  obtain ⟨W4, hW4⟩ := hw4
  have hB4 : Below w.heap.size w W4 := by
    rw [hW4]
    exact (((((Below.refl _ w).alloc (Nat.le_refl _) _).alloc (by simp) _).alloc (by simp; omega) _).alloc (by simp; omega) _)
  have hS4 : W4.heap.size = w.heap.size + 1 + 1 + 1 + 1 := by rw [hW4]; simp
  have hr4 : W4.heap[w.heap.size]? = some (.cells #[.string ⟨#[]⟩] 9 (0, 0)) ∧ W4.heap[w.heap.size + 1]? = some (.cells #[.slice none 0 0] 22 (0, 0)) ∧ W4.heap[w.heap.size + 1 + 1]? = some (.cells #[.bool false] 4 (0, 0)) ∧ W4.heap[w.heap.size + 1 + 1 + 1]? = some (.cells #[.int .i64 0] 3 (0, 0)) := by
    rw [hW4]
    exact four_blocks _ _ _ _ _
  rw [← hW4, ← hS4]
  have HW4 := Lib.hid hW4
  have HB4 := Lib.hid hB4
  have HS4 := Lib.hid hS4
  have HR4 := Lib.hid hr4
  clear hW4 hB4 hS4 hr4
  go_loopw [18] (fun v18 wr => ∃ (k : Nat) (M : Mem), k ≤ L.length ∧ v18 = .int .i64 k ∧ Hid (Rep wr W4.heap.size (SL (L.take k)) (VL (L.take k)) M) ∧ Hid (Below W4.heap.size W4 wr) ∧ Hid (M.nb [] = W4.heap.size) ∧ Hid (∀ q, (M.kids q).length ≤ k) ∧ Hid (∀ q, Srt (M.kids q))) (fun v18 _ => L.length - (intOf v18).toNat)
  case atStart =>
    refine ⟨0, M0 W4.heap.size, Nat.zero_le _, rfl, rep0 W4 W4.heap.size (Nat.le_refl _), (Below.refl _ _).alloc (Nat.le_refl _) _, rfl, ?_, ?_⟩
    · show ∀ q, _
      intro q
      exact Nat.le_refl _
    · show ∀ q, _
      intro q
      exact List.Pairwise.nil
  case round =>
    obtain ⟨k, M, hk, rfl, HR, HB, HN, HK, HS⟩ := hrel
    by_cases hlt : k < L.length
    · obtain ⟨ad, rfl, hcell⟩ := HA.out k hlt
      have hadlt := World.block_lt_of_cell? w _ hcell
      have hcw : wr.cell? (ad.add k) = some (.string (mkS (L[k]).2)) := by
        rw [HB.out.cell (p := ad.add k) (by have := HB4.out.size; omega), HB4.out.cell (p := ad.add k) hadlt]
        exact hcell
      clear hcell hadlt
      obtain ⟨ns, hT⟩ := HGd.out _ (List.getElem_mem hlt)
      have hsz : (mkS (L[k]).2).size ≤ 1000 := by rw [mkS_size]; have := HLN.out _ (List.getElem_mem hlt); omega
      have hadd := addPat W4.heap.size (SL (L.take k)) (VL (L.take k)) M wr HR.out (Nat.le_trans (Nat.le_refl _) HB.out.size) (mkS (L[k]).2) hsz (L[k]).1 ns (by rw [mkS_toList]; exact hT)
        (fun W hW => hTab.out W (HB4.out.trans ((HB.out.trans hW).mono HB4.out.size))) (fun q => by have := HK.out q; omega) (VL_out _) HS.out
      rw [HN.out, mkS_toList] at hadd
      have HADD := Lib.hid hadd
      clear hadd hT hsz
      go_wp2_with fail
      refine HADD.out.mono ?_
      rintro e w1 ⟨M', rfl, hR1, hb1, hn1, hk1, hs1⟩
      have hR1' : Rep w1 W4.heap.size (SL (L.take (k + 1))) (VL (L.take (k + 1))) M' := by
        have e : L.take (k + 1) = L.take k ++ [L[k]] := by rw [List.take_add_one, List.getElem?_eq_getElem hlt]; rfl
        rw [e, SL_snoc, VL_snoc]
        exact hR1
      have HR1 := Lib.hid hR1'
      have HB1 := Lib.hid (HB.out.trans hb1)
      have HN1 := Lib.hid (hn1.trans HN.out)
      have HK1 : Hid (∀ q, (M'.kids q).length ≤ k + 1) := fun q => by have := hk1 q; have := HK.out q; omega
      have HS1 := Lib.hid hs1
      clear hR1 hR1' hb1 hn1 hk1 hs1 hcw
      go_wp2_with fail
      go_roundw
      case rel => exact ⟨k + 1, M', by omega, by go_num, HR1, HB1, HN1, HK1, HS1⟩
      case measure => simp [intOf]; omega
    · have hke : k = L.length := by omega
      subst hke
      rw [List.take_length] at HR
      have hd : ∀ q, SL L q → q.length < 101 := by
        rintro q (rfl | ⟨e, he, hp⟩)
        · simp
        · obtain ⟨ns, hT⟩ := HGd.out e he
          have h1 := hT.len.1
          have h2 := hp.length_le
          have h3 := HLN.out e he
          have h4 : (stripAll e.2).length ≤ e.2.length := by
            unfold stripAll
            rw [List.length_reverse]
            have := (List.dropWhile_suffix (p := (· == 47)) (l := e.2.reverse)).length_le
            simpa using this
          omega
      have hkl : ∀ p (t : Tok), t ∈ M.kids p → t.2.length ≤ 1000 := by
        intro p t ht
        have hSp : SL L p := by
          rcases Classical.em (SL L p) with h | h
          · exact h
          · rw [HR.out.out p h] at ht; cases ht
        rcases (HR.out.kid p t hSp).1 ht with h | ⟨e, he, hp⟩
        · have := congrArg List.length h; simp at this
        · obtain ⟨ns, hT⟩ := HGd.out e he
          have h1 := hT.len.2.2 t (hp.subset (by simp))
          have h3 := HLN.out e he
          have h4 : (stripAll e.2).length ≤ e.2.length := by
            unfold stripAll
            rw [List.length_reverse]
            have := (List.dropWhile_suffix (p := (· == 47)) (l := e.2.reverse)).length_le
            simpa using this
          omega
      have hm := matchM W4.heap.size (SL L) (VL L) M wr HR.out s hs 101 (by omega) hd hkl
      rw [HN.out] at hm
      have HM := Lib.hid hm
      obtain ⟨q0, q1, q2, q3⟩ := HR4.out
      have hsz := HS4.out
      have hb0 := (HB.out.block w.heap.size (by omega)).trans q0
      have hb1 := (HB.out.block (w.heap.size + 1) (by omega)).trans q1
      have hb2 := (HB.out.block (w.heap.size + 1 + 1) (by omega)).trans q2
      have hb3 := (HB.out.block (w.heap.size + 1 + 1 + 1) (by omega)).trans q3
      have hwr := HB.out.size
      have HSZ := Lib.hid hsz
      clear hm hd hkl q0 q1 q2 q3 hsz hlt
      go_wp2_with fail
      refine HM.out.mono ?_
      rintro e w1 ⟨hbel, hpost⟩
      have hc0 := (hbel.block w.heap.size (by have := HSZ.out; omega)).trans hb0
      have hc1 := (hbel.block (w.heap.size + 1) (by have := HSZ.out; omega)).trans hb1
      have hc2 := (hbel.block (w.heap.size + 1 + 1) (by have := HSZ.out; omega)).trans hb2
      have hc3 := (hbel.block (w.heap.size + 1 + 1 + 1) (by have := HSZ.out; omega)).trans hb3
      cases hres : look M.kids (VL L) 101 [] (stripAll s.data.toList) [] with
      | none =>
        rw [hres] at hpost
        subst hpost
        obtain ⟨c0, f0⟩ := blkc hc0
        obtain ⟨c1, f1⟩ := blkc hc1
        obtain ⟨c2, f2⟩ := blkc hc2
        obtain ⟨c3, f3⟩ := blkc hc3
        have HBEL := Lib.hid hbel
        have HRES := Lib.hid hres
        clear hb0 hb1 hb2 hb3 hc0 hc1 hc2 hc3 hbel hres
        go_wp2_with fail
        have hfb : Below w.heap.size w ((((w1.setCell ⟨w.heap.size, 0, none⟩ (.string ⟨#[]⟩)).setCell ⟨w.heap.size + 1, 0, none⟩ (.slice none 0 0)).setCell ⟨w.heap.size + 1 + 1, 0, none⟩ (.bool false)).setCell ⟨w.heap.size + 1 + 1 + 1, 0, none⟩ (.int .i64 0)) :=
          (((((HB4.out.trans ((HB.out.trans (HBEL.out.mono HB.out.size)).mono HB4.out.size)).setCell (p := ⟨w.heap.size, 0, none⟩) (Nat.le_refl _) _).setCell (p := ⟨w.heap.size + 1, 0, none⟩) (Nat.le_add_right _ _) _).setCell (p := ⟨w.heap.size + 1 + 1, 0, none⟩) (by show w.heap.size ≤ w.heap.size + 1 + 1; omega) _).setCell (p := ⟨w.heap.size + 1 + 1 + 1, 0, none⟩) (by show w.heap.size ≤ w.heap.size + 1 + 1 + 1; omega) _)
        have hfin := HQ.out (.returned (.tuple #[.string ⟨#[]⟩, .slice none 0 0, .bool false, .int .i64 0])) _ ⟨hfb, M.kids, fun p t hp => HR.out.kid p t hp, HS.out, by rw [HRES.out]⟩
        have HFIN := Lib.hid hfin
        clear hfin hfb
        refine leaves_cons (f := 26) (args := #[.pointer (some ⟨w.heap.size, 0, none⟩), .pointer (some ⟨w.heap.size + 1, 0, none⟩), .pointer (some ⟨w.heap.size + 1 + 1, 0, none⟩), .pointer (some ⟨w.heap.size + 1 + 1 + 1, 0, none⟩)]) (by simp) (by simp [go_sem]) ?_
        refine (catchIdle _ _ _ _ _).mono ?_
        rintro e u' w'' ⟨rfl, rfl, rfl⟩
        simp [Leaves, settle, results, Tryz.results15, go_sem, c0, c1, c2, c3]
        exact HFIN.out
      | some y =>
        obtain ⟨q, ys⟩ := y
        rw [hres] at hpost
        obtain ⟨v', rfl, ho⟩ := hpost
        obtain ⟨hvq, hsq⟩ := look_valued M.kids (VL L) (SL L) (fun p t hp ht => (HR.out.kid p t hp).1 ht) 101 [] _ [] q ys (.inl rfl) hres
        obtain ⟨key, hkey⟩ := Option.isSome_iff_exists.1 hvq
        obtain ⟨_, g1, _⟩ := (HR.out.below hbel HR.out.lt).cell hsq
        rw [hkey] at g1
        simp only [valV] at g1
        obtain ⟨c0, f0⟩ := blkc hc0
        have HBEL := Lib.hid hbel
        have HRES := Lib.hid hres
        have HKEY := Lib.hid hkey
        have HO := Lib.hid ho
        have HC0 := Lib.hid hc0
        have HC1 := Lib.hid hc1
        have HC2 := Lib.hid hc2
        have HC3 := Lib.hid hc3
        clear hb0 hb1 hb2 hb3 hc0 hc1 hc2 hc3 hbel hres hvq hsq hkey ho
        have hta := assertStr
        go_wp2_with fail
        have hs0 := heap_set w1 w.heap.size 0 _ _ (.string (mkS key)) HC0.out
        have hs1 : (w1.setCell ⟨w.heap.size, 0, none⟩ (.string (mkS key))).heap[w.heap.size + 1]? = _ := (Below.heap_setCell w1 ⟨w.heap.size, 0, none⟩ (.string (mkS key)) (w.heap.size + 1) (by show w.heap.size + 1 ≠ w.heap.size; omega)).trans HC1.out
        have hs2 : (w1.setCell ⟨w.heap.size, 0, none⟩ (.string (mkS key))).heap[w.heap.size + 1 + 1]? = _ := (Below.heap_setCell w1 ⟨w.heap.size, 0, none⟩ (.string (mkS key)) (w.heap.size + 1 + 1) (by show w.heap.size + 1 + 1 ≠ w.heap.size; omega)).trans HC2.out
        have hs3 : (w1.setCell ⟨w.heap.size, 0, none⟩ (.string (mkS key))).heap[w.heap.size + 1 + 1 + 1]? = _ := (Below.heap_setCell w1 ⟨w.heap.size, 0, none⟩ (.string (mkS key)) (w.heap.size + 1 + 1 + 1) (by show w.heap.size + 1 + 1 + 1 ≠ w.heap.size; omega)).trans HC3.out
        have hNwr : w.heap.size < wr.heap.size := by have := HSZ.out; omega
        have hO1 : (w1.setCell ⟨w.heap.size, 0, none⟩ (.string (mkS key))).ownsRow wr.heap.size 9 1 v' ys.length (strs ys) := HO.out.kept (row := some w.heap.size) ⟨rfl, rfl, rfl, by simp, fun k _ hk => Below.heap_setCell _ _ _ k (fun e => hk (by rw [e]))⟩ (.inr (fun e => by have := (HO.out.lt _ e).1; omega))
        have hb1 : Below w.heap.size w (w1.setCell ⟨w.heap.size, 0, none⟩ (.string (mkS key))) := (HB4.out.trans ((HB.out.trans (HBEL.out.mono HB.out.size)).mono HB4.out.size)).setCell (p := ⟨w.heap.size, 0, none⟩) (Nat.le_refl _) _
        have hlw : w.heap.size ≤ w1.heap.size := Nat.le_trans (by omega) HBEL.out.size
        clear c0 f0 hta
        have hs0 : (w1.setCell ⟨w.heap.size, 0, none⟩ (.string (mkS key))).heap[w.heap.size]? = some (.cells #[.string (mkS key)] 9 (0, 0)) := hs0
        generalize w1.setCell ⟨w.heap.size, 0, none⟩ (.string (mkS key)) = W1 at hs0 hs1 hs2 hs3 hO1 hb1 ⊢
        obtain ⟨c0, f0⟩ := blkc hs0
        have HS0 := Lib.hid hs0
        have HS1 := Lib.hid hs1
        have HS2 := Lib.hid hs2
        have HS3 := Lib.hid hs3
        have HB1 := Lib.hid hb1
        have HO1 := Lib.hid hO1
        have hbase := hb1.size
        have hyl : ys.length ≤ 1000 := by
          have := look_len _ _ _ _ _ _ _ _ HRES.out
          simp at this
          omega
        obtain ⟨i0, hi, hz0, hz1, hz2⟩ := info_parts infoStr
        have hfin : ∀ (v2 : Value) (w2 F : World), W1.grownBy w2 none → w2.ownsRow w.heap.size 9 1 v2 ys.length (strs ys) → Below w.heap.size w2 F → F.ownsRow w.heap.size 9 1 v2 ys.length (strs ys) → Q (.returned (.tuple #[.string (mkS key), v2, .bool true, .int .i64 0])) F := by
          intro v2 w2 F hg ho hF hoF
          refine HQ.out _ _ ⟨(HB1.out.trans (grownBy_below hg hbase (by simp))).trans hF, M.kids, fun p t hp => HR.out.kid p t hp, HS.out, ?_⟩
          rw [HRES.out]
          exact ⟨v2, key, HKEY.out, rfl, hoF⟩
        have HFIN := Lib.hid hfin
        clear hs0 hs1 hs2 hs3 hb1 hfin g1
        rcases HO1.out.2 with ⟨rfl, hy0⟩ | ⟨g, cap, cur, rfl, hbg, hgg, hnc, hcm, hcs, htk⟩
        · have hye : ys = [] := List.eq_nil_of_length_eq_zero hy0
          have k3' := HS3.out
          obtain ⟨k1, z1⟩ := blkc HS1.out
          obtain ⟨k2, z2⟩ := blkc HS2.out
          obtain ⟨k3, z3⟩ := blkc HS3.out
          clear k3'
          have HYE := Lib.hid hye
          clear hye hy0
          refine wp_region_noPanic ?_
          go_region_law (refine step_append_none rfl _ _ 22 rfl W1.heap.size 9 i0 1 Tryz.underlying22 hi (.slice none 0 0) 0 [] rfl (World.ownsRow_nil _ _ _ _) rfl ?_)
          all_goals (refine NoPanic.normal ?_)
          all_goals go_wp2_with fail
          all_goals
            refine leaves_cons (f := 26) (args := #[.pointer (some ⟨w.heap.size, 0, none⟩), .pointer (some ⟨w.heap.size + 1, 0, none⟩), .pointer (some ⟨w.heap.size + 1 + 1, 0, none⟩), .pointer (some ⟨w.heap.size + 1 + 1 + 1, 0, none⟩)]) (by simp) (by simp [go_sem]) ?_
            refine (catchIdle _ _ _ _ _).mono ?_
            rintro e u' w'' ⟨rfl, rfl, rfl⟩
            simp [Leaves, settle, results, Tryz.results15, go_sem, c0, k1, k2, k3]
            refine HFIN.out (.slice none 0 0) W1.drew _ (grownBy_drew (grownBy_refl _ _)) (by rw [HYE.out]; exact World.ownsRow_nil _ _ _ _) ?_ (by rw [HYE.out]; exact World.ownsRow_nil _ _ _ _)
            exact (((((Below.refl w.heap.size W1.drew).setCell (p := ⟨w.heap.size, 0, none⟩) (Nat.le_refl _) _).setCell (p := ⟨w.heap.size + 1, 0, none⟩) (Nat.le_add_right _ _) _).setCell (p := ⟨w.heap.size + 1 + 1, 0, none⟩) (by show w.heap.size ≤ w.heap.size + 1 + 1; omega) _).setCell (p := ⟨w.heap.size + 1 + 1 + 1, 0, none⟩) (by show w.heap.size ≤ w.heap.size + 1 + 1 + 1; omega) _)
        · have hO1 := HO1.out
          have hcs2 := hO1.cells (g := g) rfl
          have HCS := Lib.hid hcs2
          clear hO1 hcs2 hgg hcs htk
          have hsl : (strs ys).length = ys.length * 1 := by simp [strs]
          have hm1 : 0 + ys.length ≤ maxLen := by simp only [maxLen]; omega
          have hm2 : (0 + ys.length) * 16 ≤ 140737488355328 := by omega
          have HSL := Lib.hid hsl
          clear hsl
          refine wp_region_noPanic ?_
          go_region_law (refine step_append_gen rfl _ _ 22 rfl W1.heap.size 9 i0 (.string ⟨#[]⟩) 1 16 Tryz.underlying22 hi hz0 hz1 hz2 rfl (by decide) (.slice none 0 0) 0 [] rfl (World.ownsRow_nil _ _ _ _) ⟨g, 0, none⟩ ys.length cap (strs ys) rfl HSL.out HCS.out (strs_one ys) hm1 hm2 (Nat.le_refl _) ?_; intro v2 w2 o2 g2; obtain ⟨a2, n2, c2, rfl⟩ := own_slice o2; have G2 : Hid (W1.grownBy w2 none) := of_drew g2; have O2 := Lib.hid o2; clear o2 g2; have hb0 := blks_kept G2.out HS0.out; have hb1 := blks_kept G2.out HS1.out; have hb2 := blks_kept G2.out HS2.out; have hb3 := blks_kept G2.out HS3.out; obtain ⟨k0, z0⟩ := blkc hb0; obtain ⟨k1, z1⟩ := blkc hb1; obtain ⟨k2, z2⟩ := blkc hb2; obtain ⟨k3, z3⟩ := blkc hb3; clear hb0 hb1 hb2 hb3)
          all_goals (refine NoPanic.normal ?_)
          all_goals go_wp2_with fail
          all_goals
            have hsz1 : w.heap.size + 1 + 1 + 1 < W1.heap.size := (Array.getElem?_eq_some_iff.1 HS3.out).1
            have hFF := HFIN.out (.slice a2 n2 c2) w2 ((((w2.setCell ⟨w.heap.size, 0, none⟩ (.string (mkS key))).setCell ⟨w.heap.size + 1, 0, none⟩ (.slice a2 n2 c2)).setCell ⟨w.heap.size + 1 + 1, 0, none⟩ (.bool true)).setCell ⟨w.heap.size + 1 + 1 + 1, 0, none⟩ (.int .i64 0)) G2.out (own_lower (by have := O2.out; rwa [Nat.zero_add, List.nil_append] at this) (by omega))
              (((((Below.refl w.heap.size w2).setCell (p := ⟨w.heap.size, 0, none⟩) (Nat.le_refl _) _).setCell (p := ⟨w.heap.size + 1, 0, none⟩) (Nat.le_add_right _ _) _).setCell (p := ⟨w.heap.size + 1 + 1, 0, none⟩) (by show w.heap.size ≤ w.heap.size + 1 + 1; omega) _).setCell (p := ⟨w.heap.size + 1 + 1 + 1, 0, none⟩) (by show w.heap.size ≤ w.heap.size + 1 + 1 + 1; omega) _)
              (own_lower (own_set (own_set (own_set (own_set ((by have := O2.out; rwa [Nat.zero_add, List.nil_append] at this)) ⟨w.heap.size, 0, none⟩ _ (by show w.heap.size < _; omega)) ⟨w.heap.size + 1, 0, none⟩ _ (by show w.heap.size + 1 < _; omega)) ⟨w.heap.size + 1 + 1, 0, none⟩ _ (by show w.heap.size + 1 + 1 < _; omega)) ⟨w.heap.size + 1 + 1 + 1, 0, none⟩ _ (by show w.heap.size + 1 + 1 + 1 < _; omega)) (by omega))
            have HFF := Lib.hid hFF
            clear hFF
            refine leaves_cons (f := 26) (args := #[.pointer (some ⟨w.heap.size, 0, none⟩), .pointer (some ⟨w.heap.size + 1, 0, none⟩), .pointer (some ⟨w.heap.size + 1 + 1, 0, none⟩), .pointer (some ⟨w.heap.size + 1 + 1 + 1, 0, none⟩)]) (by simp) (by simp [go_sem]) ?_
            refine (catchIdle _ _ _ _ _).mono ?_
            rintro e u' w'' ⟨rfl, rfl, rfl⟩
            simp [Leaves, settle, results, Tryz.results15, go_sem, k0, k1, k2, k3]
            exact HFF.out
end Go.Proofs.YtpdnjgbcnnjdiaaGreatDoor
