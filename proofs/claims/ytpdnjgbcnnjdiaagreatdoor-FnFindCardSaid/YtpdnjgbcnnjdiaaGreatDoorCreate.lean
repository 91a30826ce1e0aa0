/- (*Node).CreateNode. -/
import Derived.Test.YtpdnjgbcnnjdiaaGreatDoorAdd
import Derived.Deep.DeepCutAuto
import Derived.Deep.RegionLaw
import Derived.Deep.CutBlock
namespace Go.Proofs.YtpdnjgbcnnjdiaaGreatDoor
open Go Go.RowKit
set_option linter.unusedVariables false
set_option linter.unusedSimpArgs false

set_option maxHeartbeats 400000 in
theorem defaultOptions (w : World) : Calls Tryz.prog 46 #[] w fun e w' => e = .returned (.pointer (some ⟨w.heap.size, 0, none⟩)) ∧ w' = w.alloc (.cells #[.bool true] 105) := by
  go_enter Tryz.func46, Tryz.ntmps46
  go_wp2
  go_ret
  exact ⟨rfl, rfl⟩

def strLen : Value → Nat
  | .string b => b.size
  | _ => 0

/-- One slash less at the end. -/
theorem cut_slash (l : Bs) (h : [47] <:+ l) : ∃ l', l = l' ++ [47] ∧ (mkS l).extract 0 ((mkS l).size - 1) = mkS l' := by
  obtain ⟨l', rfl⟩ := h
  refine ⟨l', rfl, mkS_eq _ _ ?_⟩
  rw [ext_list, mkS_toList, mkS_size]
  simp

theorem sp_name {b : UInt8} (h : nameB b) : Lib.isSp b = false := by
  obtain ⟨h1, h2, _⟩ := h
  unfold Lib.isSp
  simp only [Bool.or_eq_false_iff, beq_eq_false_iff_ne, ne_eq]
  refine ⟨⟨⟨⟨⟨?_, ?_⟩, ?_⟩, ?_⟩, ?_⟩, ?_⟩ <;> (rintro rfl; revert h1; decide)
theorem dropWhile_none {l : Bs} {f : UInt8 → Bool} (h : ∀ b ∈ l, f b = false) : l.dropWhile f = l := by
  cases l with
  | nil => rfl
  | cons b l => rw [List.dropWhile_cons, h b (by simp)]; simp
theorem trim_name {nm : Bs} (h : ∀ b ∈ nm, nameB b) : Lib.trimSpace nm = nm := by
  unfold Lib.trimSpace
  rw [dropWhile_none (fun b hb => sp_name (h b hb)), dropWhile_none (fun b hb => sp_name (h b (by simpa using hb))), List.reverse_reverse]

/-- strings.TrimSpace at a variable's name. -/
theorem trimName (nm : Bs) (w : World) (hn : ∀ b ∈ nm, nameB b) (hl : nm.length ≤ 1000) (htab : Lib.TabIs Tryz.prog w "strings.asciiSpace" .u8 Lib.asciiSpaceTab) :
    Calls Tryz.prog 50 #[.string (mkS nm)] w fun e w' => e = .returned (.string (mkS nm)) ∧ Below w.heap.size w w' :=
  (Tryz.strings_TrimSpace (mkS nm) w (by rw [mkS_size]; omega) (fun j b hb => by rw [mkS_toList] at hb; have := hn b (List.mem_of_getElem? hb); exact Nat.lt_trans this.2.1 (by decide)) htab).mono fun e w' ⟨he, hw⟩ => by
    subst hw
    rw [mkS_toList, trim_name hn] at he
    refine ⟨he, ?_⟩
    refine ⟨rfl, rfl, rfl, ?_, ?_⟩
    · rw [Lib.bytesWorld_size]; omega
    · intro k hk; exact Lib.bytesWorld_at_old _ _ _ _ hk

theorem ba_get (l : Bs) (i : Nat) (h : i < (mkS l).size) (h' : i < l.length) : ((mkS l)[i]'h) = l[i] := by simp [mkS, ByteArray.getElem_eq_getElem_data]
theorem idx_const {r c r' : Bs} (hr : r = c ++ r') (hcb : ∀ b ∈ c, constB b) : ∀ i, i < c.length → ∀ h : i < (mkS r).size, ((mkS r)[i]'h).toNat < 128 ∧ ((mkS r)[i]'h).toNat ≠ 47 ∧ ((mkS r)[i]'h).toNat ≠ 123 := by
  intro i hi h
  subst hr
  rw [ba_get _ _ h (by rw [mkS_size] at h; exact h), List.getElem_append_left hi]
  obtain ⟨h1, h2, h3⟩ := hcb _ (List.getElem_mem hi)
  exact ⟨h1, fun e => h2 (UInt8.toNat_inj.1 e), fun e => h3 (UInt8.toNat_inj.1 e)⟩
theorem index_close {nm r' : Bs} (h : ∀ b ∈ nm, nameB b) : Lib.indexByte (nm ++ 125 :: r') 125 = nm.length := by
  induction nm with
  | nil => simp [Lib.indexByte]
  | cons b nm ih =>
    have hb : (b == 125) = false := by simpa using (h b (by simp)).2.2
    have := ih (fun b hb => h b (by simp [hb]))
    have hne : ¬ ((nm.length : Int) = -1) := by omega
    simp [Lib.indexByte, hb, this, hne]

/-- A block of three cells, read. -/
theorem blk3 {w : World} {g : Nat} {a b c : Value} {T : TypeId} (h : w.heap[g]? = some (.cells #[a, b, c] T (0, 0))) :
    w.cell? ⟨g, 0, none⟩ = some a ∧ w.cell? ⟨g, 1, none⟩ = some b ∧ w.cell? ⟨g, 2, none⟩ = some c ∧ w.frozen? ⟨g, 0, none⟩ = false ∧ w.frozen? ⟨g, 1, none⟩ = false ∧ w.frozen? ⟨g, 2, none⟩ = false := by
  simp [World.cell?, World.frozen?, h]
theorem blk1 {w : World} {g : Nat} {a : Value} {T : TypeId} (h : w.heap[g]? = some (.cells #[a] T (0, 0))) : w.cell? ⟨g, 0, none⟩ = some a := by simp [World.cell?, h]

/-- A node's suffixes stand in order. -/
def Srt (l : List Tok) : Prop := l.Pairwise fun a b => ¬ cmpTok b a < 0
theorem srt_of {d : Array (Tok × Nat)} (h : ∀ i j, i < j → j < d.size → ¬ cmpTok d[j]!.1 d[i]!.1 < 0) : Srt (d.toList.map (·.1)) := by
  unfold Srt
  rw [List.pairwise_map, List.pairwise_iff_getElem]
  intro i j hi hj hij
  have hi' : i < d.size := by simpa using hi
  have hj' : j < d.size := by simpa using hj
  have := h i j hij hj'
  rw [getElem!_pos d i hi', getElem!_pos d j hj'] at this
  simpa using this

/-- Where the tokens of a pattern have been taken up to p: what holds at the head of the loop. -/
def CInv (B : Nat) (S : Path → Prop) (V : Path → Option Bs) (M : Mem) (w : World) (ts : List Tok) (ns : List Bs) (gO : Nat) (g : Nat) (cur rem vns : Value) (wr : World) : Prop :=
  ∃ (p : Path) (r : Bs) (ns1 : List Bs) (ts2 : List Tok) (ns2 : List Bs) (M' : Mem),
    cur = .pointer (some ⟨M'.nb p, 0, none⟩) ∧ rem = .string (mkS r) ∧ Hid (g = r.length) ∧ r.length ≤ 1000 ∧ Hid (Toks r ts2 ns2) ∧ Hid (ts = p ++ ts2) ∧ Hid (ns = ns1 ++ ns2) ∧ ns1.length + r.length ≤ 1000 ∧
    Hid (Rep wr B (fun q => S q ∨ q <+: p) V M') ∧ Hid (Below B w wr) ∧ Hid (M'.nb [] = M.nb []) ∧
    Hid (∀ q, (M'.kids q).length ≤ (M.kids q).length + (if q <+: p ∧ q ≠ p then 1 else 0)) ∧ Hid (∀ q, Srt (M'.kids q)) ∧
    Hid (wr.ownsRow B 9 1 vns ns1.length (strs ns1)) ∧ Hid (∀ b, vns.ownBlock = some b → M'.own b = none) ∧
    Hid (wr.heap[gO]? = some (.cells #[.bool true] 105 (0, 0))) ∧ Hid (M'.own gO = none)

/-- What a call of CreateNode leaves. -/
def CPost (B : Nat) (S : Path → Prop) (V : Path → Option Bs) (M : Mem) (w : World) (ts : List Tok) (ns : List Bs) (e : Ending) (w' : World) : Prop :=
  ∃ M' : Mem, e = .returned (.tuple #[.pointer (some ⟨M'.nb ts, 0, none⟩), .nilIface]) ∧ Rep w' B (fun q => S q ∨ q <+: ts) V M' ∧ Below B w w' ∧ M'.nb [] = M.nb [] ∧
    (∀ q, (M'.kids q).length ≤ (M.kids q).length + 1) ∧ (∀ q, Srt (M'.kids q)) ∧ w'.ownsRow B 9 1 (M'.vn ts) ns.length (strs ns)

/-- Where the next token has been read: what holds ahead of the search among the suffixes. -/
def CMid (B : Nat) (S : Path → Prop) (V : Path → Option Bs) (M' : Mem) (w : World) (p : Path) (g : Nat) (ts : List Tok) (ns : List Bs) (gO : Nat) (rem vns sfx : Value) (wc : World) : Prop :=
  ∃ (kd : Int) (pt r' : Bs) (ns1 : List Bs) (ts2 : List Tok) (ns2 : List Bs) (g10 : Nat),
    rem = .string (mkS r') ∧ sfx = .pointer (some ⟨g10, 0, none⟩) ∧ Hid (wc.heap[g10]? = some (.cells #[.int .i64 kd, .string (mkS pt), .pointer none] 101 (0, 0))) ∧ B ≤ g10 ∧ Hid (M'.own g10 = none) ∧
    r'.length < g ∧ pt.length ≤ 1000 ∧ r'.length ≤ 1000 ∧ Hid (Toks r' ts2 ns2) ∧ Hid (ts = p ++ (kd, pt) :: ts2) ∧ Hid (ns = ns1 ++ ns2) ∧ ns1.length + r'.length ≤ 1000 ∧
    Hid (Rep wc B (fun q => S q ∨ q <+: p) V M') ∧ Hid (Below B w wc) ∧
    Hid (wc.ownsRow B 9 1 vns ns1.length (strs ns1)) ∧ Hid (∀ b, vns.ownBlock = some b → M'.own b = none) ∧
    Hid (wc.heap[gO]? = some (.cells #[.bool true] 105 (0, 0)))

theorem grownBy_set {w w1 : World} {r : Option Nat} (h : w.grownBy w1 r) {a : Addr} (ha : w.heap.size ≤ a.block) (v : Value) : w.grownBy (w1.setCell a v) r :=
  ⟨h.os, h.tape, h.output, by simpa using h.size, fun k hk hn => by rw [Below.heap_setCell w1 a v k (by omega)]; exact h.block k hk hn⟩
theorem grownBy_below' {w w1 w2 : World} {r : Option Nat} (h : w.grownBy w1 r) (hb : Below w1.heap.size w1 w2) : w.grownBy w2 r :=
  grownBy_new h ⟨hb.os, hb.tape, hb.output, hb.size, fun k hk _ => hb.block k hk⟩ (r' := none) (by simp)

theorem grownBy_any {w w' : World} (h : w.grownBy w' none) (r : Option Nat) : w.grownBy w' r := ⟨h.os, h.tape, h.output, h.size, fun k hk _ => h.block k hk (by simp)⟩

theorem mid_of {B : Nat} {S : Path → Prop} {V : Path → Option Bs} {M' : Mem} {w wr W : World} {p : Path} {g : Nat} {ts : List Tok} {ns ns1 : List Bs} {gO : Nat} {u9 vns : Value}
    (HRr : Rep wr B (fun q => S q ∨ q <+: p) V M') (HBr : Below B w wr) (hB : B ≤ w.heap.size) (HOW : wr.ownsRow B 9 1 u9 ns1.length (strs ns1)) (HON : ∀ b, u9.ownBlock = some b → M'.own b = none) (HGO : wr.heap[gO]? = some (.cells #[.bool true] 105 (0, 0)))
    (hgb : M'.own wr.heap.size = none) (hg : wr.grownBy W u9.ownBlock) (kd : Int) (pt r' : Bs) (ns1' : List Bs) (ts2 : List Tok) (ns2 : List Bs)
    (hsfx : W.heap[wr.heap.size]? = some (.cells #[.int .i64 kd, .string (mkS pt), .pointer none] 101 (0, 0)))
    (hO : W.ownsRow B 9 1 vns ns1'.length (strs ns1')) (hv : vns.ownBlock = u9.ownBlock ∨ ∃ b, vns.ownBlock = some b ∧ wr.heap.size ≤ b)
    (h1 : r'.length < g) (h2 : pt.length ≤ 1000) (h3 : r'.length ≤ 1000) (h4 : Toks r' ts2 ns2) (h5 : ts = p ++ (kd, pt) :: ts2) (h6 : ns = ns1' ++ ns2) (h7 : ns1'.length + r'.length ≤ 1000) (rem : Value) (hrem : rem = .string (mkS r')) :
    CMid B S V M' w p g ts ns gO rem vns (.pointer (some ⟨wr.heap.size, 0, none⟩)) W := by
  have hne : ∀ b, (M'.own b).isSome → some b ≠ u9.ownBlock := fun b hb e => by rw [HON b e.symm] at hb; cases hb
  refine ⟨kd, pt, r', ns1', ts2, ns2, wr.heap.size, hrem, rfl, hsfx, Nat.le_trans hB HBr.size, hgb, h1, h2, h3, h4, h5, h6, h7, ?_, ?_, hO, ?_, ?_⟩
  · exact HRr.keep hg.size (fun b hb => hg.block b (HRr.lt b hb) (hne b hb))
  · exact HBr.trans (grownBy_below hg (Nat.le_trans hB HBr.size) (fun b hb => (HOW.lt b hb).1))
  · intro b hb
    rcases hv with hv | ⟨b', hv, hlt⟩
    · exact HON b (by rw [← hv]; exact hb)
    · rw [hb] at hv
      injection hv with hv
      subst hv
      cases ho : M'.own b with
      | none => rfl
      | some y => have := HRr.lt b (by rw [ho]; rfl); omega
  · show W.heap[gO]? = _
    rw [hg.block gO (Array.getElem?_eq_some_iff.1 HGO).1, HGO]
    intro e
    rcases HOW.2 with ⟨hn, _⟩ | ⟨g', cap, cur, hv', _, hg', _⟩
    · rw [hn] at e; cases e
    · rw [hv'] at e
      injection e with e
      have e' : gO = g' := e
      rw [← e', HGO] at hg'
      injection hg' with hg'
      injection hg' with _ hg' _
      cases hg'

theorem snoc_prefix (q p : Path) (t : Tok) : q <+: p ++ [t] ↔ q <+: p ∨ q = p ++ [t] := by
  constructor
  · intro h
    rcases Nat.lt_or_ge p.length q.length with hl | hl
    · right
      have h1 := h.length_le
      simp at h1
      exact h.eq_of_length (by simp; omega)
    · left
      exact List.prefix_of_prefix_length_le h (List.prefix_append _ _) hl
  · rintro (h | rfl)
    · exact h.trans (List.prefix_append _ _)
    · exact List.prefix_rfl
theorem S_snoc (S : Path → Prop) (p : Path) (t : Tok) : (fun q => S q ∨ q <+: p ++ [t]) = fun q => (S q ∨ q <+: p) ∨ q = p ++ [t] := by
  funext q
  rw [snoc_prefix, or_assoc]
theorem Rep.grown0 {w w' : World} {B : Nat} {S : Path → Prop} {V : Path → Option Bs} {M : Mem} (h : Rep w B S V M) (hg : w.grownBy w' none) : Rep w' B S V M :=
  h.keep hg.size (fun b hb => hg.block b (h.lt b hb) (by simp))
theorem kids_bound {M M' : Mem} {p : Path} {t : Tok} (h : ∀ q, (M'.kids q).length ≤ (M.kids q).length + (if q <+: p ∧ q ≠ p then 1 else 0)) (q : Path) : (M'.kids q).length ≤ (M.kids q).length + (if q <+: p ++ [t] ∧ q ≠ p ++ [t] then 1 else 0) := by
  have := h q
  by_cases h1 : q <+: p ∧ q ≠ p
  · rw [if_pos h1] at this
    rw [if_pos ⟨h1.1.trans (List.prefix_append _ _), fun e => by rw [e] at h1; have := h1.1.length_le; simp at this; omega⟩]
    exact this
  · rw [if_neg h1] at this
    omega

theorem step_append_keep {P : Program} {ops : Array Oper} {o : Oper} {a : Act} {w : World} {K : Act → World → Prop} {Q : Exit → Act → World → Prop} {E : Prop} (hgd : o.guard = none) (s x : Operand) (t : TypeId)
    (ho : o.op = .call { callee := .builtin .append, args := #[s, x], argTypes := #[t, t] })
    (base : Nat) (e : TypeId) (i : TypeInfo) (z : Value) (size bytes : Nat) (ht : P.underlying t = some (.slice e)) (hi : P.info? e = some i) (hz : i.zero = some z)
    (hsize : i.size = size) (hby : i.bytes = bytes) (hzs : z.cells.size = size) (hsz : 0 < size)
    (v : Value) (n : Nat) (xs : List Value) (hs : a.eval s = v) (hown : w.ownsRow base e size v n xs)
    (ad : Addr) (m c : Nat) (hm : 0 < m) (news : List Value) (hx : a.eval x = .slice (some ad) m c) (hl : news.length = m * size) (hnews : ∀ j u, news[j]? = some u → w.cell? (ad.add j) = some u) (h1 : ∀ u ∈ news, u.oneCell' = true)
    (h63 : n + m ≤ 1000000) (hbytes : bytes ≤ 1000) (hbase : base ≤ w.heap.size)
    (h : ∀ v' w', w'.ownsRow base e size v' (n + m) (xs ++ news) → w.grownBy w' v.ownBlock → ((w.grownBy w' none ∧ ∃ b, v'.ownBlock = some b ∧ w.heap.size ≤ b) ∨ (∃ b, v.ownBlock = some b ∧ v'.ownBlock = some b)) → K (a.put o.dst v') w') :
    if Region.wanted o (yielded ops a.tmps) = true then Oper.wp P o a w K Q else E := by
  have hw : Region.wanted o (yielded ops a.tmps) = true := by simp [Region.wanted, hgd]
  rw [if_pos hw]
  obtain ⟨v', w', hr, h2, h3, h4, h5⟩ := append_keep (P := P) (w := w) base t o.type e i z size bytes ht hi hz hsize hby hzs hsz v n xs hown ad m c hm news hl hnews h1 h63 hbytes hbase
  unfold Oper.wp
  simp [execOp, ho, resolve, invoke, builtin, hs, hx, hr, Result.andThen]
  exact h v' w' h2 h3 h5

theorem infoSfx : (Tryz.prog.info? 101).map (fun i => (i.zero, i.size, i.bytes)) = some (some (.agg #[.int .i64 0, .string ⟨#[]⟩, .pointer none]), 3, 32) := by kernel_rfl
theorem cell_three_new (w : World) (a b c : Value) (t : TypeId) : ∀ j u, [a, b, c][j]? = some u → (w.alloc (.cells #[a, b, c] t)).cell? ((⟨w.heap.size, 0, none⟩ : Addr).add j) = some u := by
  intro j u hj
  match j, hj with
  | 0, hj => simp at hj; subst hj; simp [Addr.add]
  | 1, hj => simp at hj; subst hj; simp [Addr.add]
  | 2, hj => simp at hj; subst hj; simp [Addr.add]
  | j + 3, hj => simp at hj
theorem sfx_one (k : Int) (s : ByteArray) (n : Nat) : ∀ u ∈ [Value.int .i64 k, .string s, .pointer (some ⟨n, 0, none⟩)], u.oneCell' = true := by
  intro u hu
  simp at hu
  rcases hu with rfl | rfl | rfl <;> rfl

theorem cell_three_drew (w : World) (a b c : Value) (t : TypeId) : ∀ j u, [a, b, c][j]? = some u → ((w.alloc (.cells #[a, b, c] t)).drew).cell? ((⟨w.heap.size, 0, none⟩ : Addr).add j) = some u := cell_three_new w a b c t
theorem base1 {B : Nat} {w : World} (h : B ≤ w.heap.size) (o : Obj) : B ≤ ((w.alloc o).drew).heap.size := by show B ≤ (w.alloc o).heap.size; simp; omega
theorem own_form {w : World} {base : Nat} {e : TypeId} {size : Nat} {v : Value} {n : Nat} {xs : List Value} (h : w.ownsRow base e size v (n + 1) xs) : ∃ g cap, v = .slice (some ⟨g, 0, none⟩) (n + 1) cap := by
  rcases h.2 with ⟨_, h0⟩ | ⟨g, cap, _, hv, _⟩
  · omega
  · exact ⟨g, cap, hv⟩
theorem own_slice {w : World} {base : Nat} {e : TypeId} {size : Nat} {v : Value} {n : Nat} {xs : List Value} (h : w.ownsRow base e size v n xs) : ∃ a k c, v = .slice a k c := by
  rcases h.2 with ⟨hv, _⟩ | ⟨g, cap, _, hv, _⟩
  · exact ⟨_, _, _, hv⟩
  · exact ⟨_, _, _, hv⟩
theorem le32 : 32 ≤ 1000 := by decide
/-- What the parent's field is, behind the append. -/
theorem field_kept {w w1 : World} {o : Obj} {v : Value} {g : Nat} {cs : Array Value} {T : TypeId} (hg : ((w.alloc o).drew).grownBy w1 v.ownBlock) (hb : w.heap[g]? = some (.cells cs T (0, 0))) (hne : v.ownBlock ≠ some g) : w1.heap[g]? = some (.cells cs T (0, 0)) := by
  have hlt := (Array.getElem?_eq_some_iff.1 hb).1
  rw [hg.block g (by show g < (w.alloc o).heap.size; simp; omega) (fun e => hne e.symm)]
  exact (heap_alloc_old w o hlt).trans hb

set_option maxHeartbeats 4000000 in
set_option maxRecDepth 100000 in
theorem create (B : Nat) (S : Path → Prop) (V : Path → Option Bs) (M : Mem) (w : World) (hR : Rep w B S V M) (hB : B ≤ w.heap.size) (s : ByteArray) (hs : s.size ≤ 1000) (ts : List Tok) (ns : List Bs) (hT : Toks (stripAll s.data.toList) ts ns) (hTab : Hid (∀ W, Below B w W → Lib.TabIs Tryz.prog W "strings.asciiSpace" .u8 Lib.asciiSpaceTab)) (h11 : Hid (∀ q, (M.kids q).length ≤ 11)) (hV : Hid (∀ q, ¬ S q → V q = none)) (hSrt : Hid (∀ q, Srt (M.kids q))) :
    Calls Tryz.prog 37 #[.pointer (some ⟨M.nb [], 0, none⟩), .string s, .pointer none] w (CPost B S V M w ts ns) := by
  suffices hsuff : ∀ Q : Ending → World → Prop, Hid (∀ e w', CPost B S V M w ts ns e w' → Q e w') → Calls Tryz.prog 37 #[.pointer (some ⟨M.nb [], 0, none⟩), .string s, .pointer none] w Q from hsuff _ (fun _ _ h => h)
  intro Q HQ
  have HR := Lib.hid hR
  have HT0 := Lib.hid hT
  clear hR hT
  go_enter Tryz.func37, Tryz.ntmps37
  go_wp2; go_step3
  go_wp2_with (go_at_call 46; refine (defaultOptions _).mono ?_; rintro e w' ⟨rfl, rfl⟩)
  go_loop [1] (fun v => ∃ l : Bs, v = .string (mkS l) ∧ l.length ≤ 1000 ∧ Hid (stripAll l = stripAll s.data.toList)) (fun v => strLen v)
  case atStart => exact ⟨s.data.toList, by rw [mkS_self], by rw [size_list]; exact hs, rfl⟩
  case round =>
    obtain ⟨l, rfl, hl, HL⟩ := hrel
    have hsz : (mkS l).size ≤ 100000 := by rw [mkS_size]; omega
    by_cases hsuf : [47] <:+ l
    · have hdec : decide ((⟨#[47]⟩ : ByteArray).data.toList <:+ (mkS l).data.toList) = true := by rw [mkS_toList]; simpa using hsuf
      have HDEC := Lib.hid hdec
      obtain ⟨l', hl', hx⟩ := cut_slash l hsuf
      have hpos : 1 ≤ (mkS l).size := by rw [mkS_size, hl']; simp
      have HLT : Hid (((mkS l).extract 0 ((mkS l).size - 1)).size < (mkS l).size) := by show _ < _; rw [hx, mkS_size, mkS_size, hl']; simp
      have HX := Lib.hid hx
      have HL' := Lib.hid hl'
      clear hx hl' hsuf hdec
      go_wp2_with (go_at_call 38; refine (hasSuffix _ _ _ (by omega) (by decide) true HDEC.out).mono ?_; rintro e w' ⟨rfl, rfl⟩)
      go_round
      case rel => exact ⟨l', by rw [HX.out], by rw [HL'.out] at hl; simp at hl; omega, by show _ = _; rw [← HL.out, HL'.out, stripAll_snoc]⟩
      case measure => exact HLT.out
    · have hdec : decide ((⟨#[47]⟩ : ByteArray).data.toList <:+ (mkS l).data.toList) = false := by rw [mkS_toList]; simpa using hsuf
      have HDEC := Lib.hid hdec
      have hls : l = stripAll s.data.toList := by rw [← HL.out, stripAll_other _ hsuf]
      have HT : Hid (Toks l ts ns) := by show Toks _ _ _; rw [hls]; exact HT0.out
      clear hsuf hdec hls HL
      go_wp2_with (go_at_call 38; refine (hasSuffix _ _ _ (by omega) (by decide) false HDEC.out).mono ?_; rintro e w' ⟨rfl, rfl⟩)
      go_step3
      go_wp2_with fail
      go_loopg [0, 8, 9] l.length (fun g cur rem vns wr => CInv B S V M w ts ns w.heap.size g cur rem vns wr)
      case atStart =>
        refine ⟨[], l, [], ts, ns, M, rfl, rfl, rfl, hl, HT, rfl, rfl, by simp; exact hl, ?_, ?_, rfl, ?_, hSrt, World.ownsRow_nil _ _ _ _, ?_, ?_, ?_⟩
        · show Rep _ _ _ _ _
          have := HR.out.alloc (.cells #[.bool true] 105)
          have e : (fun q => S q ∨ q <+: []) = S := by
            funext q
            apply propext
            constructor
            · rintro (h | h)
              · exact h
              · rw [List.prefix_nil.1 h]; exact HR.out.root
            · exact .inl
          rw [e]
          exact this
        · exact (Below.refl _ _).alloc hB _
        · show ∀ q, _
          intro q
          omega
        · show ∀ b, _
          intro b hb
          simp [Value.ownBlock] at hb
        · exact heap_alloc_new _ _
        · show _ = _
          cases ho : M.own w.heap.size with
          | none => rfl
          | some y => have := HR.out.lt w.heap.size (by rw [ho]; rfl); omega
      case round =>
        obtain ⟨p, r, ns1, ts2, ns2, M', rfl, rfl, HG, hrl, HTK, HTS, HNS, hnl, HRr, HBr, HNB, HKL, HSR, HOW, HON, HGO, HGN⟩ := hrel
        have hsz : (mkS r).size ≤ 100000 := by rw [mkS_size]; omega
        by_cases hr0 : r = []
        · subst hr0
          have hz : (((mkS []).size : Int) == 0) = true := by rw [mkS_size]; rfl
          have hSp : S p ∨ p <+: p := .inr List.prefix_rfl
          obtain ⟨c0, c1, c2⟩ := HRr.out.cell hSp
          have f0 := HRr.out.frozen hSp 0
          obtain ⟨ua, un, uc, rfl⟩ := own_slice HOW.out
          have hfin : CPost B S V M w ts ns (.returned (.tuple #[.pointer (some ⟨M'.nb p, 0, none⟩), .nilIface])) (wr.setCell ⟨M'.nb p, 0, none⟩ (.slice ua un uc)) := by
            have hinv : ts2 = [] ∧ ns2 = [] := by
              rcases HTK.out.inv with ⟨_, h1, h2⟩ | ⟨_, _, h, _⟩ | ⟨c, _, _, h, _, _, h2, _⟩ | ⟨_, _, _, _, _, h, _⟩
              · exact ⟨h1, h2⟩
              · cases h
              · cases c with
                | nil => exact absurd rfl h
                | cons => cases h2
              · cases h
            have e1 : ts = p := by rw [HTS.out, hinv.1]; simp
            have e2 : ns = ns1 := by rw [HNS.out, hinv.2]; simp
            subst e1
            subst e2
            refine ⟨{ M' with vn := upd M'.vn ts (.slice ua un uc) }, rfl, ?_, HBr.out.setCell (p := ⟨M'.nb ts, 0, none⟩) (HRr.out.base ts hSp) _, HNB.out, fun q => ?_, HSR.out, ?_⟩
            · exact HRr.out.store hSp 0 _ rfl rfl rfl rfl (fun q hq => ⟨upd_other _ _ _ _ hq, rfl⟩) (by simp [upd_same])
            · have h1 := HKL.out q
              show (M'.kids q).length ≤ _
              split at h1 <;> omega
            · show World.ownsRow _ _ _ _ (upd M'.vn ts _ ts) _ _
              rw [upd_same]
              refine HOW.out.kept (row := some (M'.nb ts)) ⟨rfl, rfl, rfl, by simp, fun k _ hk => Below.heap_setCell _ _ _ k (fun e => hk (by rw [e]))⟩ ?_
              right
              intro e
              have := HON.out _ e
              rw [HRr.out.ownN ts hSp] at this
              cases this
          have HFIN := Lib.hid (HQ.out _ _ hfin)
          clear hfin hSp HRr HBr HOW HON HGO HTK HTS HNS
          go_wp2_with fail
          exact HFIN.out
        · have hz : (((mkS r).size : Int) == 0) = false := by rw [mkS_size]; have := List.length_pos_iff.2 hr0; simp; exact hr0
          obtain ⟨bp, hbp⟩ : ∃ b, decide ((⟨#[47]⟩ : ByteArray).data.toList <+: (mkS r).data.toList) = b := ⟨_, rfl⟩
          have HBP := Lib.hid hbp
          clear hbp
          go_upto_if 38 with (go_at_call 47; refine (hasPrefix _ _ _ (by omega) (by decide) bp HBP.out).mono ?_; rintro e w' ⟨rfl, rfl⟩)
          go_cut [8, 9, 10, 11, 12, 13] from 28 to 126 (fun v8 v9 v10 v11 v12 v13 wc => CMid B S V M' w p gk ts ns w.heap.size v8 v9 v10 wc)
          case first =>
            have hBB := HBr.out.size
            have hgb : M'.own wr.heap.size = none := by
              cases ho : M'.own wr.heap.size with
              | none => rfl
              | some y => have := HRr.out.lt wr.heap.size (by rw [ho]; rfl); omega
            have HGB := Lib.hid hgb
            clear hgb
            rcases HTK.out.inv with ⟨h, _, _⟩ | ⟨r', ts', hr, ht, hT'⟩ | ⟨c, r', ts', hc0, hcb, hend, hr, ht, hT'⟩ | ⟨nm, r', ts', ns', hnm, hr, ht, hn', hT'⟩
            · exact absurd h hr0
            · -- a slash
              have hbt : bp = true := by rw [← HBP.out, mkS_toList, hr]; exact decide_eq_true (List.prefix_append [47] r')
              subst hbt
              have hx : (mkS r).extract 1 (mkS r).size = mkS r' := mkS_eq _ _ (by rw [ext_list, mkS_toList, mkS_size, hr]; simp)
              have h1 : 1 ≤ (mkS r).size := by rw [mkS_size, hr]; simp
              have HX := Lib.hid hx
              have HR' := Lib.hid hr
              have HT' := Lib.hid ht
              have HTK' := Lib.hid hT'
              clear hx hr ht hT' hr0 hz
              go_wp2_with fail
              go_meet
              case rel =>
                have hlen : r.length = r'.length + 1 := by rw [HR'.out]; rfl
                refine ⟨0, [47], r', ns1, ts', ns2, wr.heap.size, by rw [HX.out], rfl, heap_alloc_new _ _, by omega, HGB.out, by rw [HG.out]; omega, by simp, by omega, HTK'.out, by show _ = _; rw [HTS.out, HT'.out], HNS, by omega, HRr.out.alloc _, HBr.out.alloc (by omega) _, HOW.out.alloc _, HON.out, ?_⟩
                show _ = _
                rw [heap_alloc_old _ _ (Array.getElem?_eq_some_iff.1 HGO.out).1]
                exact HGO.out
            · -- a constant part
              have hcl := List.length_pos_iff.2 hc0
              have hbt : bp = false := by
                rw [← HBP.out, mkS_toList, hr]
                apply decide_eq_false
                intro hp
                cases c with
                | nil => exact hc0 rfl
                | cons b c =>
                  have := (hcb b (by simp)).2.1
                  rw [List.cons_append] at hp
                  exact this (List.cons_prefix_cons.1 hp).1.symm
              subst hbt
              have hic := idx_const hr hcb
              have hrlen : r.length = c.length + r'.length := by rw [hr]; simp
              have hsize : (mkS r).size = c.length + r'.length := by rw [mkS_size, hrlen]
              have HRL := Lib.hid hrlen
              have hb2 : ∀ b, b ∈ c → True := fun _ _ => trivial
              rcases hend with hr'0 | ⟨r'', hr''⟩
              · have hrc : r = c := by rw [hr, hr'0]; simp
                have HIA := fun W => indexAny (mkS r) c.length (by omega) hic (-1) (.inl ⟨by rw [hsize, hr'0]; simp, rfl⟩) W
                have HIAx := Lib.hid HIA
                have HRC := Lib.hid hrc
                have HR0 := Lib.hid hr'0
                have HT' := Lib.hid ht
                have HTK' := Lib.hid hT'
                have hpos : 1 ≤ (mkS r).size := by omega
                clear hr ht hT' hr0 hz hic HIA hrc hr'0 hrlen hsize hcb hc0 hb2
                go_wp2_with fail
                refine (HIAx.out _).mono ?_
                rintro e w1 ⟨rfl, hb1⟩
                have hg10 := (hb1.block wr.heap.size (by simp)).trans (heap_alloc_new wr _)
                obtain ⟨k0, k1, k2, f0, f1, f2⟩ := blk3 hg10
                have hlt1 := hb1.size
                simp at hlt1
                have HG10 := Lib.hid hg10
                have HB1 := Lib.hid hb1
                clear hg10 hb1
                go_wp2_with fail
                go_meet
                case rel =>
                  have hg1 := grownBy_set (grownBy_set (grownBy_below' (World.grownBy_alloc wr _ none) HB1.out) (a := ⟨wr.heap.size, 0, none⟩) (Nat.le_refl _) (.int .i64 0)) (a := ⟨wr.heap.size, 1, none⟩) (Nat.le_refl _) (.string (mkS r))
                  have hs2 := heap_set _ wr.heap.size 1 _ _ (.string (mkS r)) (heap_set _ wr.heap.size 0 _ _ (.int .i64 0) HG10.out)
                  exact mid_of HRr.out HBr.out hB HOW.out HON.out HGO.out HGB.out (grownBy_any hg1 _) 0 c r' ns1 ts' ns2 (by rw [hs2, HRC.out]; rfl) (HOW.out.kept hg1 (by cases u9.ownBlock <;> simp)) (.inl rfl) (by rw [HG.out]; have := HRL.out; omega) (by have := HRL.out; omega) (by have := HRL.out; omega) HTK'.out (by rw [HTS.out, HT'.out]) HNS.out (by have := HRL.out; omega) _ (by rw [HR0.out]; rfl)
              · have hlt : c.length < (mkS r).size := by rw [hsize, hr'']; simp
                have hat : ((mkS r)[c.length]'hlt).toNat = 47 := by
                  rw [ba_get _ _ hlt (by rw [mkS_size] at hlt; exact hlt)]
                  subst hr
                  rw [List.getElem_append_right (Nat.le_refl _)]
                  simp [hr'']
                have HIA := fun W => indexAny (mkS r) c.length (by omega) hic (c.length : Int) (.inr ⟨rfl, hlt, .inl hat⟩) W
                have hx1 : (mkS r).extract 0 c.length = mkS c := mkS_eq _ _ (by rw [ext_list, mkS_toList, hr]; simp)
                have hx2 : (mkS r).extract c.length (mkS r).size = mkS r' := mkS_eq _ _ (by rw [ext_list, mkS_toList, mkS_size, hr]; simp)
                have hbg : decide ((c.length : Int) > 0) = true := decide_eq_true (by omega)
                have hbg2 : (0 : Int) < (c.length : Int) := by omega
                have hle : c.length ≤ (mkS r).size := by omega
                have HX1 := Lib.hid hx1
                have HX2 := Lib.hid hx2
                have HIAx := Lib.hid HIA
                have HT' := Lib.hid ht
                have HTK' := Lib.hid hT'
                clear hr ht hT' hr0 hz hic HIA hrlen hsize hcb hc0 hb2 hlt hat hx1 hx2 hr''
                go_wp2_with fail
                refine (HIAx.out _).mono ?_
                rintro e w1 ⟨rfl, hb1⟩
                have hg10 := (hb1.block wr.heap.size (by simp)).trans (heap_alloc_new wr _)
                obtain ⟨k0, k1, k2, f0, f1, f2⟩ := blk3 hg10
                have hlt1 := hb1.size
                simp at hlt1
                have HG10 := Lib.hid hg10
                have HB1 := Lib.hid hb1
                clear hg10 hb1
                go_wp2_with fail
                go_meet
                case rel =>
                  have hg1 := grownBy_set (grownBy_set (grownBy_below' (World.grownBy_alloc wr _ none) HB1.out) (a := ⟨wr.heap.size, 0, none⟩) (Nat.le_refl _) (.int .i64 0)) (a := ⟨wr.heap.size, 1, none⟩) (Nat.le_refl _) (.string ((mkS r).extract 0 c.length))
                  have hs2 := heap_set _ wr.heap.size 1 _ _ (.string ((mkS r).extract 0 c.length)) (heap_set _ wr.heap.size 0 _ _ (.int .i64 0) HG10.out)
                  exact mid_of HRr.out HBr.out hB HOW.out HON.out HGO.out HGB.out (grownBy_any hg1 _) 0 c r' ns1 ts' ns2 (by rw [hs2, HX1.out]; rfl) (HOW.out.kept hg1 (by cases u9.ownBlock <;> simp)) (.inl rfl) (by rw [HG.out]; have := HRL.out; omega) (by have := HRL.out; omega) (by have := HRL.out; omega) HTK'.out (by rw [HTS.out, HT'.out]) HNS.out (by have := HRL.out; omega) _ (by rw [HX2.out])
            · -- a variable
              have hbt : bp = false := by
                rw [← HBP.out, mkS_toList, hr]
                apply decide_eq_false
                intro hp
                have := (List.cons_prefix_cons.1 hp).1
                cases this
              subst hbt
              have hrlen : r.length = nm.length + r'.length + 2 := by rw [hr]; simp; omega
              have hsize : (mkS r).size = nm.length + r'.length + 2 := by rw [mkS_size, hrlen]
              have hlt : 0 < (mkS r).size := by omega
              have hat : ((mkS r)[0]'hlt).toNat = 123 := by
                rw [ba_get _ _ hlt (by rw [mkS_size] at hlt; exact hlt)]
                subst hr
                simp
              have HIA := fun W => indexAny (mkS r) 0 (by omega) (fun i hi => absurd hi (by omega)) (0 : Int) (.inr ⟨rfl, hlt, .inr hat⟩) W
              have hcl : Lib.indexByte r 125 = nm.length + 1 := by
                have := index_close (nm := nm) (r' := r') hnm
                have hne : ¬ ((nm.length : Int) = -1) := by omega
                rw [hr]
                simp [Lib.indexByte, this, hne]
              have hIB := fun W : World => (Tryz.strings_IndexByte (mkS r) 125 W).mono fun e w' (h : e = .returned (.int .i64 (Lib.indexByte (mkS r).data.toList 125)) ∧ w' = W) => (show e = .returned (.int .i64 ((nm.length : Int) + 1)) ∧ W = w' from ⟨by rw [h.1, mkS_toList, hcl], h.2.symm⟩)
              have hx1 : (mkS r).extract 1 (nm.length + 1) = mkS nm := mkS_eq _ _ (by rw [ext_list, mkS_toList, hr]; exact List.take_left)
              have hx2 : (mkS r).extract (nm.length + 1 + 1) (mkS r).size = mkS r' := mkS_eq _ _ (by
                rw [ext_list, mkS_toList, mkS_size, hr, List.drop_succ_cons, List.take_of_length_le (by simp; omega)]
                rw [List.drop_append, List.drop_of_length_le (by omega)]
                simp)
              have hat2 : ((((mkS r)[0]'hlt).toNat : Int) == 123) = true := by rw [hat]; rfl
              have HTN := fun (W : World) (hW : Below B w W) => trimName nm W hnm (by omega) (hTab.out W hW)
              have HX1 := Lib.hid hx1
              have HX2 := Lib.hid hx2
              have HIAx := Lib.hid HIA
              have HIBx := Lib.hid hIB
              have HTNx := Lib.hid HTN
              have HT' := Lib.hid ht
              have HTK' := Lib.hid hT'
              have HN' := Lib.hid hn'
              have HRL := Lib.hid hrlen
              have hnl1 : nm.length + 1 ≤ (mkS r).size := by omega
              have hnl2 : nm.length + 1 + 1 ≤ (mkS r).size := by omega
              have hnl3 : nm.length ≤ 1000 := by omega
              clear hr ht hT' hr0 hz HIA hIB HTN hrlen hsize hat hx1 hx2 hn' hnm hcl
              go_wp2_with fail
              refine (HIAx.out _).mono ?_
              rintro e w1 ⟨rfl, hb1⟩
              have hg10 := (hb1.block wr.heap.size (by simp)).trans (heap_alloc_new wr _)
              obtain ⟨k0, k1, k2, f0, f1, f2⟩ := blk3 hg10
              have hlt1 := hb1.size
              simp at hlt1
              have HG10 := Lib.hid hg10
              have HB1 := Lib.hid hb1
              clear hg10 hb1
              go_wp2_with fail
              refine (HIBx.out _).mono ?_
              rintro e w2 ⟨rfl, rfl⟩
              go_wp2_with fail
              rw [HX1.out]
              have hg1 := grownBy_set (grownBy_below' (World.grownBy_alloc wr _ none) HB1.out) (a := ⟨wr.heap.size, 0, none⟩) (Nat.le_refl _) (.int .i64 2)
              have hs1 := heap_set _ wr.heap.size 0 _ _ (.int .i64 2) HG10.out
              have hbel := HBr.out.trans (grownBy_below hg1 (B := B) (by omega) (by simp))
              generalize w1.setCell ⟨wr.heap.size, 0, none⟩ (.int .i64 2) = w2 at hg1 hs1 hbel ⊢
              clear k0 k1 k2 f0 f1 f2 hlt1 HG10 HB1
              refine (HTNx.out w2 hbel).mono ?_
              rintro e w3 ⟨rfl, hb3⟩
              have hg3 := grownBy_below' hg1 hb3
              have hlt2 := (Array.getElem?_eq_some_iff.1 hs1).1
              have hs3 := (hb3.block wr.heap.size hlt2).trans hs1
              have hgO := (hg3.block w.heap.size (Array.getElem?_eq_some_iff.1 HGO.out).1 (by simp)).trans HGO.out
              obtain ⟨k0, k1, k2, f0, f1, f2⟩ := blk3 hs3
              have hO := blk1 hgO
              have hlt3 := hg3.size
              have hlt4 := (Array.getElem?_eq_some_iff.1 hs3).1
              have HG3 := Lib.hid hg3
              have HS3 := Lib.hid hs3
              obtain ⟨i0, hi, hz0, hz1, hz2⟩ := info_parts infoStr
              have hn3 : ns1.length + 1 ≤ 1000000 := by omega
              have hB3 : B ≤ w3.heap.size := by omega
              have hB4 : B ≤ wr.heap.size := by omega
              clear hg3 hs3 hgO hg1 hs1 hbel hb3 hlt2
              by_cases hstar : [42] <:+ nm
              · have hdec : decide ((⟨#[42]⟩ : ByteArray).data.toList <:+ (mkS nm).data.toList) = true := by rw [mkS_toList]; simpa using hstar
                have HST := Lib.hid hdec
                have HKD : Hid (kindOfName nm = 3) := by show _ = _; unfold kindOfName; rw [if_pos hstar]
                have HOW3 : Hid ((w3.setCell ⟨wr.heap.size, 0, none⟩ (.int .i64 3)).ownsRow B 9 1 u9 ns1.length (strs ns1)) := HOW.out.kept (grownBy_set HG3.out (a := ⟨wr.heap.size, 0, none⟩) (Nat.le_refl _) (.int .i64 3)) (by cases u9.ownBlock <;> simp)
                have hmz : (mkS nm).size ≤ 100000 := by rw [mkS_size]; omega
                clear hstar hdec
                go_wp2_with (first | (go_at_call 38; refine (hasSuffix _ _ _ hmz (by decide) true HST.out).mono ?_; rintro e w' ⟨rfl, rfl⟩) | (at_builtin; refine wpList_append_keep _ rfl _ _ 22 rfl B 9 i0 (.string ⟨#[]⟩) 1 16 Tryz.underlying22 hi hz0 hz1 hz2 rfl (by decide) u9 ns1.length (strs ns1) rfl (HOW3.out.alloc _) ⟨w3.heap.size, 0, none⟩ 1 1 (by decide) [.string (mkS nm)] rfl rfl ?c1 (str_one _) hn3 le16 ?c5 ?_))
                case c1 => first | exact cell_one_new _ _ _ | (have h := cell_one_new (w3.setCell ⟨wr.heap.size, 0, none⟩ (.int .i64 3)) (.string (mkS nm)) 9; simpa using h)
                case c5 => simp; omega
                intro v1 w4 a1 a2 a3 a4
                have hs4 : w4.heap[wr.heap.size]? = some (.cells #[.int .i64 3, .string (mkS []), .pointer none] 101 (0, 0)) := by
                  rw [a2.block wr.heap.size (by simp; omega) (fun e => by have := (HOW.out.lt _ e.symm).2; omega), heap_alloc_old _ _ (by first | omega | (simp; omega))]
                  exact heap_set _ wr.heap.size 0 _ _ (.int .i64 3) HS3.out
                have hg4 := grownBy_trans (grownBy_any (grownBy_alloc' (grownBy_set HG3.out (a := ⟨wr.heap.size, 0, none⟩) (Nat.le_refl _) (.int .i64 3)) (.cells #[.string (mkS nm)] 9)) u9.ownBlock) a2
                have A1 := Lib.hid a1
                have A4 := Lib.hid a4
                have HS4 := Lib.hid hs4
                have HG4 := Lib.hid hg4
                clear a1 a2 a3 a4 hs4 hg4
                go_wp2_with fail
                go_meet
                case rel =>
                  have hrl2 := HRL.out
                  have hv : v1.ownBlock = u9.ownBlock ∨ ∃ b, v1.ownBlock = some b ∧ wr.heap.size ≤ b := by
                    rcases A4.out with ⟨_, b, hb, hlt⟩ | ⟨b, h1, h2⟩
                    · exact .inr ⟨b, hb, by omega⟩
                    · exact .inl (by rw [h1, h2])
                  exact mid_of HRr.out HBr.out hB HOW.out HON.out HGO.out HGB.out HG4.out 3 [] r' (ns1 ++ [nm]) ts' ns' HS4.out (by have := A1.out; rw [List.length_append]; simpa [strs] using this) hv (by rw [HG.out]; omega) (by simp) (by omega) HTK'.out (by rw [HTS.out, HT'.out, HKD.out]) (by rw [HNS.out, HN'.out]; simp) (by simp; omega) _ (by rw [HX2.out])
              · have hdec : decide ((⟨#[42]⟩ : ByteArray).data.toList <:+ (mkS nm).data.toList) = false := by rw [mkS_toList]; simpa using hstar
                have HST := Lib.hid hdec
                have HKD : Hid (kindOfName nm = 2) := by show _ = _; unfold kindOfName; rw [if_neg hstar]
                have HOW3 : Hid (w3.ownsRow B 9 1 u9 ns1.length (strs ns1)) := HOW.out.kept HG3.out (by cases u9.ownBlock <;> simp)
                have hmz : (mkS nm).size ≤ 100000 := by rw [mkS_size]; omega
                clear hstar hdec
                go_wp2_with (first | (go_at_call 38; refine (hasSuffix _ _ _ hmz (by decide) false HST.out).mono ?_; rintro e w' ⟨rfl, rfl⟩) | (at_builtin; refine wpList_append_keep _ rfl _ _ 22 rfl B 9 i0 (.string ⟨#[]⟩) 1 16 Tryz.underlying22 hi hz0 hz1 hz2 rfl (by decide) u9 ns1.length (strs ns1) rfl (HOW3.out.alloc _) ⟨w3.heap.size, 0, none⟩ 1 1 (by decide) [.string (mkS nm)] rfl rfl ?c1 (str_one _) hn3 le16 ?c5 ?_))
                case c1 => first | exact cell_one_new _ _ _ | (have h := cell_one_new (w3.setCell ⟨wr.heap.size, 0, none⟩ (.int .i64 3)) (.string (mkS nm)) 9; simpa using h)
                case c5 => simp; omega
                intro v1 w4 a1 a2 a3 a4
                have hs4 : w4.heap[wr.heap.size]? = some (.cells #[.int .i64 2, .string (mkS []), .pointer none] 101 (0, 0)) := by
                  rw [a2.block wr.heap.size (by simp; omega) (fun e => by have := (HOW.out.lt _ e.symm).2; omega), heap_alloc_old _ _ (by first | omega | (simp; omega))]
                  exact HS3.out
                have hg4 := grownBy_trans (grownBy_any (grownBy_alloc' (HG3.out) (.cells #[.string (mkS nm)] 9)) u9.ownBlock) a2
                have A1 := Lib.hid a1
                have A4 := Lib.hid a4
                have HS4 := Lib.hid hs4
                have HG4 := Lib.hid hg4
                clear a1 a2 a3 a4 hs4 hg4
                go_wp2_with fail
                go_meet
                case rel =>
                  have hrl2 := HRL.out
                  have hv : v1.ownBlock = u9.ownBlock ∨ ∃ b, v1.ownBlock = some b ∧ wr.heap.size ≤ b := by
                    rcases A4.out with ⟨_, b, hb, hlt⟩ | ⟨b, h1, h2⟩
                    · exact .inr ⟨b, hb, by omega⟩
                    · exact .inl (by rw [h1, h2])
                  exact mid_of HRr.out HBr.out hB HOW.out HON.out HGO.out HGB.out HG4.out 2 [] r' (ns1 ++ [nm]) ts' ns' HS4.out (by have := A1.out; rw [List.length_append]; simpa [strs] using this) hv (by rw [HG.out]; omega) (by simp) (by omega) HTK'.out (by rw [HTS.out, HT'.out, HKD.out]) (by rw [HNS.out, HN'.out]; simp) (by simp; omega) _ (by rw [HX2.out])
          case rest =>
            obtain ⟨kd, pt, r', ns1', ts2', ns2', g10, rfl, rfl, HSF, hg10B, HOG, hlt, hpt, hr', HTK2, HTS2, HNS2, hnl2, HRc, HBc, HOWc, HONc, HGOc⟩ := hcut
            have hSp : S p ∨ p <+: p := .inr List.prefix_rfl
            obtain ⟨c0, c1, c2⟩ := HRc.out.cell hSp
            obtain ⟨a, cap, hsv, hml, _⟩ := HRc.out.suf1 hSp
            rw [hsv] at c2
            have HSV := Lib.hid hsv
            have HSP := Lib.hid hSp
            have hml' : (M'.kids p).length ≤ 9223372036854775807 := by unfold maxLen at hml; omega
            clear hsv hSp hml HRr HBr HOW HON HGO HTK HTS HNS HBP hsz hz hr0
            have hltr : r'.length < r.length := by have := HG.out; omega
            go_wp2_with fail
            go_loopg [0, 97] (M'.kids p).length (fun g2 v0 v97 wi => ∃ k : Nat, k + g2 = (M'.kids p).length ∧ v0 = .pointer (some ⟨M'.nb p, 0, none⟩) ∧ v97 = .int .i64 k ∧ Hid (∀ j, j < k → (M'.kids p)[j]? ≠ some (kd, pt)) ∧ Hid (wc.grownBy wi none))
            case atStart => exact ⟨0, by omega, rfl, rfl, fun j hj => absurd hj (by omega), grownBy_refl _ _⟩
            case round =>
              obtain ⟨k, hkg, rfl, rfl, HNO, HGI⟩ := hrel
              have hRi := HRc.out.grown0 HGI.out
              have hsf := (HGI.out.block g10 (Array.getElem?_eq_some_iff.1 HSF.out).1 (by simp)).trans HSF.out
              obtain ⟨k0, k1, k2, f0, f1, f2⟩ := blk3 hsf
              have hg10lt := (Array.getElem?_eq_some_iff.1 hsf).1
              by_cases hlt2 : k < (M'.kids p).length
              · obtain ⟨⟨kd', pt'⟩, ht⟩ : ∃ t, (M'.kids p)[k]? = some t := ⟨_, List.getElem?_eq_getElem hlt2⟩
                obtain ⟨g, rfl, hgo, d0, d1, d2⟩ := hRi.sufAt HSP.out HSV.out k (kd', pt') ht
                have HRi := Lib.hid hRi
                have HT1 := Lib.hid ht
                clear hRi ht hgo hsf
                by_cases he : kd' = kd ∧ pt' = pt
                · obtain ⟨rfl, rfl⟩ := he
                  have hb : (kd' == kd' && (mkS pt').toList == (mkS pt').toList) = true := by simp
                  have HEB := Lib.hid hb
                  clear hb
                  go_wp2_with (go_at_call 51; refine (equalSuffix _ _ _ _ _ _ _ true HEB.out).mono ?_; rintro e w' ⟨rfl, rfl⟩)
                  go_roundg r'.length
                  case measure => have := HG.out; omega
                  case rel =>
                    have hkid := (HRc.out.kid p (kd', pt') HSP.out).1 (List.mem_of_getElem? HT1.out)
                    have hSS : S (p ++ [(kd', pt')]) := by
                      rcases hkid with h | h
                      · exact h
                      · have := h.length_le; simp at this; omega
                    have hg5 := grownBy_alloc' (grownBy_alloc' (grownBy_alloc' HGI.out (.cells #[.int .i64 kd', .string (mkS pt'), .pointer (some ⟨M'.nb (p ++ [(kd', pt')]), 0, none⟩)] 101)) (.cells #[.int .i64 kd', .string (mkS pt'), .pointer (some ⟨M'.nb (p ++ [(kd', pt')]), 0, none⟩)] 101)) (.cells #[.int .i64 kd', .string (mkS pt'), .pointer none] 101)
                    refine ⟨p ++ [(kd', pt')], r', ns1', ts2', ns2', M', rfl, rfl, rfl, hr', HTK2, by show _ = _; rw [HTS2.out]; simp, HNS2, hnl2, ?_, ?_, HNB, kids_bound HKL.out, HSR, HOWc.out.kept hg5 (by cases u9.ownBlock <;> simp), HONc, ?_, HGN⟩
                    · show Rep _ _ _ _ _
                      have e : (fun q => S q ∨ q <+: p ++ [(kd', pt')]) = fun q => S q ∨ q <+: p := by
                        rw [S_snoc]
                        funext q
                        apply propext
                        constructor
                        · rintro (h | rfl)
                          · exact h
                          · exact .inl hSS
                        · exact .inl
                      rw [e]
                      exact HRc.out.grown0 hg5
                    · exact HBc.out.trans (grownBy_below hg5 (Nat.le_trans hB HBc.out.size) (by simp))
                    · exact (hg5.block _ (Array.getElem?_eq_some_iff.1 HGOc.out).1 (by simp)).trans HGOc.out
                · have hb : (kd' == kd && (mkS pt').toList == (mkS pt).toList) = false := by
                    rw [mkS_toL, mkS_toL]
                    cases h : (kd' == kd && pt' == pt) with
                    | false => rfl
                    | true => exact absurd (by simpa using h) he
                  have HEB := Lib.hid hb
                  have HE := Lib.hid he
                  clear hb he
                  go_wp2_with (go_at_call 51; refine (equalSuffix _ _ _ _ _ _ _ false HEB.out).mono ?_; rintro e w' ⟨rfl, rfl⟩)
                  go_roundg (gk - 1)
                  case measure => omega
                  case rel =>
                    refine ⟨k + 1, by omega, rfl, by go_num, ?_, grownBy_alloc' (grownBy_alloc' (grownBy_alloc' HGI.out _) _) _⟩
                    show ∀ j, _
                    intro j hj
                    rcases Nat.lt_or_ge j k with h | h
                    · exact HNO.out j h
                    · have hjk : j = k := by omega
                      rw [hjk, HT1.out]
                      intro e
                      injection e with e
                      injection e with e1 e2
                      exact HE.out ⟨e1, e2⟩
              · have hke : k = (M'.kids p).length := by omega
                subst hke
                have HNK : Hid (¬ (S (p ++ [(kd, pt)]) ∨ p ++ [(kd, pt)] <+: p)) := by
                  intro h
                  have h1 := (HRc.out.kid p (kd, pt) HSP.out).2 h
                  obtain ⟨j, hj⟩ := List.getElem?_of_mem h1
                  exact HNO.out j (List.getElem?_eq_some_iff.1 hj).1 hj
                have HRi := Lib.hid hRi
                have HSFI := Lib.hid hsf
                clear hRi hsf hlt2
                obtain ⟨b0, b1, b2⟩ := HRi.out.cell HSP.out
                have bf := HRi.out.frozen HSP.out 2
                go_wp2_with fail
                have hset := heap_set wr g10 2 _ _ (.pointer (some ⟨wr.heap.size, 0, none⟩)) HSFI.out
                have hW10 : ((wr.setCell ⟨g10, 2, none⟩ (.pointer (some ⟨wr.heap.size, 0, none⟩))).alloc (.cells #[.slice none 0 0, .nilIface, .slice none 0 0] 62)).heap[g10]? = some (.cells #[.int .i64 kd, .string (mkS pt), .pointer (some ⟨wr.heap.size, 0, none⟩)] 101 (0, 0)) := by
                  rw [heap_alloc_old _ _ (by simpa using hg10lt), hset]; rfl
                have hWN : ((wr.setCell ⟨g10, 2, none⟩ (.pointer (some ⟨wr.heap.size, 0, none⟩))).alloc (.cells #[.slice none 0 0, .nilIface, .slice none 0 0] 62)).heap[wr.heap.size]? = some (.cells #[.slice none 0 0, .nilIface, .slice none 0 0] 62 (0, 0)) := by
                  have := heap_alloc_new (wr.setCell ⟨g10, 2, none⟩ (.pointer (some ⟨wr.heap.size, 0, none⟩))) (.cells #[.slice none 0 0, .nilIface, .slice none 0 0] 62)
                  simpa using this
                have hWR : Rep ((wr.setCell ⟨g10, 2, none⟩ (.pointer (some ⟨wr.heap.size, 0, none⟩))).alloc (.cells #[.slice none 0 0, .nilIface, .slice none 0 0] 62)) B (fun q => S q ∨ q <+: p) V M' := by
                  refine (HRi.out.keep (by simp) (fun b hb => Below.heap_setCell wr _ _ b ?_)).alloc _
                  intro e
                  rw [show b = g10 from e, HOG.out] at hb
                  cases hb
                have hWO : ∀ k, k < wr.heap.size → k ≠ g10 → ((wr.setCell ⟨g10, 2, none⟩ (.pointer (some ⟨wr.heap.size, 0, none⟩))).alloc (.cells #[.slice none 0 0, .nilIface, .slice none 0 0] 62)).heap[k]? = wr.heap[k]? := fun k hk hne => by
                  rw [heap_alloc_old _ _ (by simpa using hk)]
                  exact Below.heap_setCell wr _ _ k hne
                have hWS : ((wr.setCell ⟨g10, 2, none⟩ (.pointer (some ⟨wr.heap.size, 0, none⟩))).alloc (.cells #[.slice none 0 0, .nilIface, .slice none 0 0] 62)).heap.size = wr.heap.size + 1 := by simp
                have hWB : Below B wr ((wr.setCell ⟨g10, 2, none⟩ (.pointer (some ⟨wr.heap.size, 0, none⟩))).alloc (.cells #[.slice none 0 0, .nilIface, .slice none 0 0] 62)) := ((Below.refl B wr).setCell (p := ⟨g10, 2, none⟩) hg10B _).alloc (by simp; have := HBc.out.size; have := HGI.out.size; omega) _
                clear b0 b1 b2 bf k0 k1 k2 f0 f1 f2 hset
                generalize (wr.setCell ⟨g10, 2, none⟩ (.pointer (some ⟨wr.heap.size, 0, none⟩))).alloc (.cells #[.slice none 0 0, .nilIface, .slice none 0 0] 62) = W at hW10 hWN hWR hWO hWS hWB ⊢
                obtain ⟨b0, b1, b2⟩ := hWR.cell HSP.out
                have bf := hWR.frozen HSP.out 2
                rw [HSV.out] at b2
                obtain ⟨k0, k1, k2, _, _, _⟩ := blk3 hW10
                have hnode := hWR.node p HSP.out
                have hrow := hWR.row p HSP.out
                rw [HSV.out] at hrow hnode
                have hne : (Value.slice a (M'.kids p).length cap).ownBlock ≠ some (M'.nb p) := fun e => by
                  have h1 := hWR.ownR p _ HSP.out (by rw [HSV.out]; exact e)
                  rw [hWR.ownN p HSP.out] at h1
                  injection h1 with h1
                  injection h1 with _ h1
                  cases h1
                have hklen : (M'.kids p).length ≤ 11 := by
                  have h1 := HKL.out p
                  have h2 := h11.out p
                  rw [if_neg (fun h => h.2 rfl)] at h1
                  omega
                have hn4 : (M'.kids p).length + 1 ≤ 1000000 := by omega
                have hBW : B ≤ W.heap.size := by have := HBc.out.size; have := HGI.out.size; omega
                obtain ⟨i1, hi1, hy0, hy1, hy2⟩ := info_parts infoSfx
                have HNODE := Lib.hid hnode
                have HROW := Lib.hid hrow
                have HNE := Lib.hid hne
                have HW10 := Lib.hid hW10
                have HWN := Lib.hid hWN
                have HWR := Lib.hid hWR
                have HWO := Lib.hid hWO
                have HWS := Lib.hid hWS
                have HWB := Lib.hid hWB
                clear hnode hrow hne hW10 hWN hWR hWO hWS hWB
                have en1 : M'.nb p < W.heap.size := World.block_lt_of_cell? W _ b2
                have en2 : W.heap.size ≠ M'.nb p := by omega
                have en3 : M'.nb p ≠ W.heap.size := by omega
                have em1 : g10 < W.heap.size := World.block_lt_of_cell? W _ k0
                go_region_law (refine step_append_keep rfl _ _ 60 rfl B 101 i1 (.agg #[.int .i64 0, .string ⟨#[]⟩, .pointer none]) 3 32 Tryz.underlying60 hi1 hy0 hy1 hy2 rfl (by decide) (.slice a (M'.kids p).length cap) (M'.kids p).length (kidCells M' p (M'.kids p)) rfl (own_drew (HROW.out.alloc _)) ⟨W.heap.size, 0, none⟩ 1 1 (by decide) [.int .i64 kd, .string (mkS pt), .pointer (some ⟨wr.heap.size, 0, none⟩)] rfl rfl (cell_three_drew _ _ _ _ _) (sfx_one _ _ _) hn4 le32 (base1 hBW _) ?_; intro v8 w8 o8 g8 d8; obtain ⟨g9, cap9, rfl⟩ := own_form o8; have hb8 := field_kept g8 HNODE.out HNE.out; obtain ⟨e0, e1, e2, ef0, ef1, ef2⟩ := blk3 hb8; have HB8 := Lib.hid hb8; have O8 := Lib.hid o8; have G8 := Lib.hid g8; have D8 := Lib.hid d8; clear o8 g8 d8 hb8)
                all_goals go_wp2_with fail
                all_goals
                  have hlen9 := sufs_size M' p (kd, pt) wr.heap.size
                  have hW9 := pre_sort (v := .slice (some ⟨g9, 0, none⟩) ((M'.kids p).length + 1) cap9) O8.out (by
                    intro e
                    rcases D8.out with ⟨_, b, hb, hl9⟩ | ⟨b, h1, h2⟩
                    · have e' : g9 = b := by simpa [Value.ownBlock] using hb
                      have hl' : W.heap.size + 1 ≤ b := by
                        have : (W.alloc _).heap.size ≤ b := hl9
                        simpa using this
                      omega
                    · have e' : g9 = b := by simpa [Value.ownBlock] using h2
                      exact HNE.out (by rw [h1, ← e', e]))
                  have hsort := sortFunc g9 cap9 B (sufs M' p (kd, pt) wr.heap.size) _ hW9 (by rw [hlen9]; omega)
                  rw [hlen9] at hsort
                  refine hsort.mono ?_
                  rintro e w10 ⟨rfl, d', hd1, hd2, hd3, hd4, hd5⟩
                  have HD2 := Lib.hid hd2
                  have HD3 := Lib.hid (srt_of hd3)
                  have HD4 := Lib.hid hd4
                  have HD5 := Lib.hid hd5
                  clear hsort hW9 hlen9 hd1 hd2 hd3 hd4 hd5 e0 e1 e2 ef0 ef1 ef2 b0 b1 b2 bf k0 k1 k2
                  go_wp2_with fail
                  go_roundg r'.length
                  case measure => have := HG.out; omega
                  case rel =>
                    have hSp2 : ¬ S (p ++ [(kd, pt)]) := fun h => HNK.out (.inl h)
                    have hBr : B ≤ wr.heap.size := by have := HBc.out.size; have := HGI.out.size; omega
                    obtain ⟨F1, F2, F3, F4, F5, F6⟩ := add_frame HRi.out HSP.out HSV.out HWO.out HWS.out G8.out D8.out HD5.out
                    have hR10 := add_rep HRi.out HSP.out HSV.out HNK.out (hV.out _ hSp2) hBr HOG.out HWN.out HWO.out HWS.out HB8.out G8.out D8.out HD5.out d'.toList HD2.out HD4.out
                    have hnp : M'.nb p < wr.heap.size := HRi.out.lt _ (by rw [HRi.out.ownN p HSP.out]; rfl)
                    have hown9 : ∀ b, M'.own b = none → b < wr.heap.size → b ≠ g10 → w10.heap[b]? = wr.heap[b]? := fun b hb hlt hne =>
                      F1 b hlt hne (fun e => by rw [e, HRi.out.ownN p HSP.out] at hb; cases hb) (fun e => by rw [HRi.out.ownR p b HSP.out e] at hb; cases hb)
                    have hown2 : ∀ b, M'.own b = none → b < wr.heap.size → (M'.grown p (kd, pt) (d'.toList.map (·.1)) wr.heap.size (.slice (some ⟨g9, 0, none⟩) ((M'.kids p).length + 1) cap9)).own b = none := fun b hb hlt => by
                      show (if b = wr.heap.size then _ else if (Value.slice (some ⟨g9, 0, none⟩) ((M'.kids p).length + 1) cap9).ownBlock = some b then _ else _) = _
                      rw [if_neg (by omega), if_neg, hb]
                      intro e
                      have e' : g9 = b := by simpa [Value.ownBlock] using e
                      rcases F3 with h | h
                      · have h5 := HRi.out.ownR p g9 HSP.out h
                        rw [e', hb] at h5
                        cases h5
                      · omega
                    have hO9 : wr.ownsRow B 9 1 u9 ns1'.length (strs ns1') := HOWc.out.kept HGI.out (by cases u9.ownBlock <;> simp)
                    have hu9 : ∀ b, u9.ownBlock = some b → b < wr.heap.size ∧ b ≠ g10 := fun b hb => by
                      refine ⟨(hO9.lt b hb).2, fun e => ?_⟩
                      rcases hO9.2 with ⟨hn, _⟩ | ⟨g', cap', cur, hv', _, hg', _⟩
                      · rw [hn] at hb; cases hb
                      · rw [hv'] at hb
                        have e2 : g' = b := by simpa [Value.ownBlock] using hb
                        rw [e2, e, HSFI.out] at hg'
                        injection hg' with hg'
                        injection hg' with _ hg' _
                        cases hg'
                    have hGOi := (HGI.out.block w.heap.size (Array.getElem?_eq_some_iff.1 HGOc.out).1 (by simp)).trans HGOc.out
                    have hGO1 := (Array.getElem?_eq_some_iff.1 hGOi).1
                    have hGO2 : w.heap.size ≠ g10 := fun e => by
                      rw [e, HSFI.out] at hGOi
                      injection hGOi with hGOi
                      injection hGOi with _ hGOi _
                      cases hGOi
                    refine ⟨p ++ [(kd, pt)], r', ns1', ts2', ns2', M'.grown p (kd, pt) (d'.toList.map (·.1)) wr.heap.size (.slice (some ⟨g9, 0, none⟩) ((M'.kids p).length + 1) cap9), ?_, rfl, rfl, hr', HTK2, by show _ = _; rw [HTS2.out]; simp, HNS2, hnl2, ?_, ?_, ?_, ?_, ?_, ?_, ?_, ?_, ?_⟩
                    · simp [Mem.grown, upd_same]
                    · show Rep _ _ _ _ _
                      rw [S_snoc]
                      exact hR10
                    · show Below _ _ _
                      have hb1 := HBc.out.trans (grownBy_below HGI.out (Nat.le_trans hB HBc.out.size) (by simp))
                      have hb2 := hb1.trans HWB.out
                      have hb3 : Below B W ((W.alloc (.cells #[.int .i64 kd, .string (mkS pt), .pointer (some ⟨wr.heap.size, 0, none⟩)] 101)).drew) := ((Below.refl B W).alloc (by have := HWB.out.size; omega) _).drew
                      have hrowb : ∀ b, (Value.slice a (M'.kids p).length cap).ownBlock = some b → B ≤ b := fun b hb => ((HRi.out.row p HSP.out).lt b (by rw [HSV.out]; exact hb)).1
                      have hb4 := hb3.grown G8.out (by show B ≤ (W.alloc _).heap.size; simp; have := HWB.out.size; omega) hrowb
                      have hg9B : B ≤ g9 := by
                        rcases F3 with h | h
                        · exact ((HRi.out.row p HSP.out).lt g9 h).1
                        · omega
                      exact ((hb2.trans hb4).setCell (p := ⟨M'.nb p, 2, none⟩) (HRi.out.base p HSP.out) _).grown HD5.out (by have := (hb2.trans hb4).size; simp; omega) (fun b hb => by injection hb with hb; omega)
                    · show upd M'.nb (p ++ [(kd, pt)]) _ [] = _
                      rw [upd_other _ _ _ _ (by intro e; have := congrArg List.length e; simp at this)]
                      exact HNB.out
                    · show ∀ q, _
                      intro q
                      by_cases hq : q = p
                      · subst hq
                        have h1 := HKL.out q
                        rw [if_neg (fun h => h.2 rfl)] at h1
                        have h2 : ((M'.grown q (kd, pt) (d'.toList.map (·.1)) wr.heap.size (.slice (some ⟨g9, 0, none⟩) ((M'.kids q).length + 1) cap9)).kids q).length = (M'.kids q).length + 1 := by
                          show (upd M'.kids q _ q).length = _
                          rw [upd_same]
                          have := HD2.out.length_eq
                          simp [sufs] at this
                          simpa using this
                        rw [h2, if_pos ⟨List.prefix_append _ _, ne_snoc _ _⟩]
                        omega
                      · have h2 : (M'.grown p (kd, pt) (d'.toList.map (·.1)) wr.heap.size (.slice (some ⟨g9, 0, none⟩) ((M'.kids p).length + 1) cap9)).kids q = M'.kids q := upd_other _ _ _ _ hq
                        rw [h2]
                        exact kids_bound HKL.out q
                    · show ∀ q, _
                      intro q
                      by_cases hq : q = p
                      · subst hq
                        show Srt (upd M'.kids q _ q)
                        rw [upd_same]
                        exact HD3.out
                      · have h2 : (M'.grown p (kd, pt) (d'.toList.map (·.1)) wr.heap.size (.slice (some ⟨g9, 0, none⟩) ((M'.kids p).length + 1) cap9)).kids q = M'.kids q := upd_other _ _ _ _ hq
                        rw [h2]
                        exact HSR.out q
                    · show World.ownsRow _ _ _ _ _ _ _
                      refine ⟨hO9.1, ?_⟩
                      rcases hO9.2 with hn | ⟨g', cap', cur, hv', hb', hg', rest⟩
                      · exact .inl hn
                      · have hu := hu9 g' (by rw [hv']; rfl)
                        exact .inr ⟨g', cap', cur, hv', hb', (hown9 g' (HONc.out g' (by rw [hv']; rfl)) hu.1 hu.2).trans hg', rest⟩
                    · show ∀ b, _
                      intro b hb
                      exact hown2 b (HONc.out b hb) (hu9 b hb).1
                    · exact (hown9 _ HGN.out hGO1 hGO2).trans hGOi
                    · exact hown2 _ HGN.out hGO1
end Go.Proofs.YtpdnjgbcnnjdiaaGreatDoor
