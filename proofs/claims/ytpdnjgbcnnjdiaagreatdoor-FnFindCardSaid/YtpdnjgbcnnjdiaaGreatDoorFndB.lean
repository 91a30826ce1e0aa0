/- strings.Builder at this program: WriteRune onto a builder that has room keeps its row; WriteRune and String onto a fresh one. -/
import Derived.Test.YtpdnjgbcnnjdiaaGreatDoorPathsMap
import Derived.Test.YtpdnjgbcnnjdiaaGreatDoorLays
import Derived.Shelf.Strings.Builder2Cap
import Derived.Maps.AppendAt
namespace Go.Proofs
open Go.Shelf
def Tryz.lays168_ren : Go.Shelf.Ren := ⟨fun | 168 => 34 | 240 => 41 | 242 => 43 | 276 => 56 | 278 => 58 | n => n, fun | 70 => 78 | 72 => 81 | 37 => 79 | 46 => 51 | 51 => 112 | 75 => 64 | 80 => 84 | 164 => 109 | n => n, fun | n => n⟩
theorem Tryz.lays168 : Go.Proofs.Lays.n168 Tryz.prog Tryz.lays168_ren := {
  mixed := by kernel_rfl
  f168 := Tryz.func34.trans (congrArg some (by kernel_rfl))
  f240 := Tryz.func41.trans (congrArg some (by kernel_rfl))
  f242 := Tryz.func43.trans (congrArg some (by kernel_rfl))
  f276 := Tryz.func56.trans (congrArg some (by kernel_rfl))
  f278 := Tryz.func58.trans (congrArg some (by kernel_rfl))
  t0 := Tryz.underlying0
  a0 := Tryz.isAgg0
  z0 := Tryz.sizeOf0
  v0 := Tryz.zeroValue0
  t3 := Tryz.underlying3
  a3 := Tryz.isAgg3
  z3 := Tryz.sizeOf3
  v3 := Tryz.zeroValue3
  t4 := Tryz.underlying4
  a4 := Tryz.isAgg4
  z4 := Tryz.sizeOf4
  v4 := Tryz.zeroValue4
  t5 := Tryz.underlying5
  a5 := Tryz.isAgg5
  z5 := Tryz.sizeOf5
  v5 := Tryz.zeroValue5
  t9 := Tryz.underlying9
  a9 := Tryz.isAgg9
  z9 := Tryz.sizeOf9
  v9 := Tryz.zeroValue9
  t20 := Tryz.underlying20
  a20 := Tryz.isAgg20
  z20 := Tryz.sizeOf20
  v20 := Tryz.zeroValue20
  t21 := Tryz.underlying21
  a21 := Tryz.isAgg21
  z21 := Tryz.sizeOf21
  v21 := Tryz.zeroValue21
  t37 := Tryz.underlying79
  a37 := Tryz.isAgg79
  z37 := Tryz.sizeOf79
  v37 := Tryz.zeroValue79
  t46 := Tryz.underlying51
  a46 := Tryz.isAgg51
  z46 := Tryz.sizeOf51
  v46 := Tryz.zeroValue51
  t51 := Tryz.underlying112
  a51 := Tryz.isAgg112
  z51 := Tryz.sizeOf112
  v51 := Tryz.zeroValue112
  t70 := Tryz.underlying78
  a70 := Tryz.isAgg78
  z70 := Tryz.sizeOf78
  v70 := Tryz.zeroValue78
  t72 := Tryz.underlying81
  a72 := Tryz.isAgg81
  z72 := Tryz.sizeOf81
  v72 := Tryz.zeroValue81
  t75 := Tryz.underlying64
  a75 := Tryz.isAgg64
  z75 := Tryz.sizeOf64
  v75 := Tryz.zeroValue64
  t164 := Tryz.underlying109
  a164 := Tryz.isAgg109
  z164 := Tryz.sizeOf109
  v164 := Tryz.zeroValue109 }
theorem Tryz.Builder_Extra_168 : Builder.Extra Tryz.prog Tryz.lays168_ren := {
  sizeBuilder := by kernel_rfl
  liesBuilder := by kernel_rfl
  t5 := Tryz.underlying5
  a5 := Tryz.isAgg5
  z5 := Tryz.sizeOf5
  v5 := Tryz.zeroValue5
  infoByte := by kernel_rfl
  cellsByte := by kernel_rfl
  sizeByte := by kernel_rfl
  neB5 := by decide }
open Go.RowKit in
theorem Tryz.Builder_WriteRune_k (B b : Nat) (bs : List Value) (r : Int) (hr0 : -2147483648 ≤ r) (hr1 : r ≤ 2147483647) (w : World) (h : Lib.IsBuilderF 81 5 B b bs w) (hlen : bs.length + 4 ≤ 140737488355328) (hBw : B ≤ w.heap.size) :
    Calls Tryz.prog 34 #[.pointer (some ⟨b, 0, none⟩), .int .i32 r] w fun e w' => e = .returned (.tuple #[.int .i64 (Lib.runeCells r).length, .nilIface]) ∧ (Lib.BuilderAtF 81 5 B b (.pointer (some ⟨b, 0, none⟩)) (bs ++ Lib.runeCells r) w' ∧ Below B w w' ∧ Lib.OthersKept 5 (some b) w w') :=
  Any.Builder_WriteRune_k Tryz.lays168 Tryz.Builder_Extra_168 B b bs r hr0 hr1 w h hlen hBw
theorem Tryz.Builder_copyCheck_used (b : Nat) (w : World) (h0 : w.cell? ⟨b, 0, none⟩ = some (.pointer (some ⟨b, 0, none⟩))) :
    Calls Tryz.prog 41 #[.pointer (some ⟨b, 0, none⟩)] w fun e w' => e = .returned (.tuple #[]) ∧ w' = w :=
  Any.Builder_copyCheck_used (ρ := Tryz.lays168_ren) { Tryz.lays168 with } Tryz.Builder_Extra_168.toX72 b w h0
open Go.RowKit in
theorem Tryz.Builder_Grow_fresh_cap (B b n : Nat) (w : World) (hB : B ≤ b) (hbk : w.heap[b]? = some (.cells #[.pointer none, .slice none 0 0] 81 (0, 0))) (hBw : B ≤ w.heap.size) (hn : n ≤ 281474976710656) :
    Calls Tryz.prog 32 #[.pointer (some ⟨b, 0, none⟩), .int .i64 n] w fun e w' => e = .returned (.tuple #[]) ∧ (Lib.BuilderAt 81 5 B b (.pointer (some ⟨b, 0, none⟩)) [] w' ∧ Below B w w') ∧ ∃ p cap, w'.cell? ⟨b, 1, none⟩ = some (.slice p 0 cap) ∧ n ≤ cap :=
  Any.Builder_Grow_fresh_cap Tryz.lays165 Tryz.Builder_Extra_165 B b n w hB hbk hBw hn
end Go.Proofs
namespace Go.Proofs.YtpdnjgbcnnjdiaaGreatDoor
open Go Go.RowKit
set_option linter.unusedVariables false
set_option linter.unusedSimpArgs false

/-- All blocks but two are as they were. -/
structure Two (w w' : World) (b g : Nat) : Prop where
  os : w'.os = w.os
  tape : w'.tape = w.tape
  output : w'.output = w.output
  size : w.heap.size ≤ w'.heap.size
  block : ∀ k, k < w.heap.size → k ≠ b → k ≠ g → w'.heap[k]? = w.heap[k]?
theorem Two.below {w w' : World} {b g B : Nat} (h : Two w w' b g) (hB : B ≤ b) (hg : B ≤ g) (hw : B ≤ w.heap.size) : Below B w w' :=
  ⟨h.os, h.tape, h.output, h.size, fun i hi => h.block i (by omega) (by omega) (by omega)⟩

/-- A builder that has room: its pointer, its row, how many it holds, its capacity. -/
structure Tpl (w : World) (B b g cap : Nat) (x : Bs) : Prop where
  hB : B ≤ b
  blk : w.heap[b]? = some (.cells #[.pointer (some ⟨b, 0, none⟩), .slice (some ⟨g, 0, none⟩) x.length cap] 81 (0, 0))
  own : w.ownsRow B 5 1 (.slice (some ⟨g, 0, none⟩) x.length cap) x.length (Lib.byteCells x)
  ne : b ≠ g
theorem Tpl.lt {w : World} {B b g cap : Nat} {x : Bs} (h : Tpl w B b g cap x) : b < w.heap.size ∧ g < w.heap.size ∧ B ≤ g :=
  ⟨(Array.getElem?_eq_some_iff.1 h.blk).1, (h.own.lt g rfl).2, (h.own.lt g rfl).1⟩
theorem own_heap {w w' : World} {B g n cap size : Nat} {e : TypeId} {xs : List Value} (h : w.ownsRow B e size (.slice (some ⟨g, 0, none⟩) n cap) n xs) (hg : w'.heap[g]? = w.heap[g]?) : w'.ownsRow B e size (.slice (some ⟨g, 0, none⟩) n cap) n xs := by
  refine ⟨h.1, ?_⟩
  rcases h.2 with ⟨h1, _⟩ | ⟨g', cap', cur, he, r1, r2, rest⟩
  · simp at h1
  · simp only [Value.slice.injEq, Option.some.injEq, Addr.mk.injEq, and_true, true_and] at he
    obtain ⟨rfl, rfl⟩ := he
    exact .inr ⟨g, cap, cur, rfl, r1, hg.trans r2, rest⟩
theorem Tpl.kept {w w' : World} {B b g cap : Nat} {x : Bs} (h : Tpl w B b g cap x) (hb : w'.heap[b]? = w.heap[b]?) (hg : w'.heap[g]? = w.heap[g]?) : Tpl w' B b g cap x := by
  exact ⟨h.hB, hb.trans h.blk, own_heap h.own hg, h.ne⟩
theorem Tpl.builder {w : World} {B b g cap : Nat} {x : Bs} (h : Tpl w B b g cap x) : Lib.IsBuilderF 81 5 B b (Lib.byteCells x) w := by
  refine .inr ⟨h.hB, _, h.blk, ?_, ?_⟩
  · rw [Lib.byteCells_length]; exact World.ownsRowF_of h.own
  · simp only [Value.ownBlock, ne_eq, Option.some.injEq]; exact fun e => h.ne e.symm
theorem infoU8 : (Tryz.prog.info? 5).map (fun i => (i.zero, i.size, i.bytes)) = some (some (.int .u8 0), 1, 1) := by kernel_rfl

theorem wpList_append_fits {P : Program} {ops : Array Oper} {rest : List Oper} {o : Oper} {a : Act} {Q : Exit → Act → World → Prop} (w : World) (hgd : o.guard = none) (s x : Operand) (t : TypeId)
    (ho : o.op = .call { callee := .builtin .append, args := #[s, x], argTypes := #[t, t] })
    (base : Nat) (e : TypeId) (i : TypeInfo) (size : Nat) (ht : P.underlying t = some (.slice e)) (hi : P.info? e = some i) (hsize : i.size = size)
    (g n cap : Nat) (xs : List Value) (hs : a.eval s = .slice (some ⟨g, 0, none⟩) n cap) (hown : w.ownsRow base e size (.slice (some ⟨g, 0, none⟩) n cap) n xs)
    (ad : Addr) (m c : Nat) (news : List Value) (hx : a.eval x = .slice (some ad) m c) (hl : news.length = m * size) (hnews : ∀ j u, news[j]? = some u → w.cell? (ad.add j) = some u) (h1 : ∀ u ∈ news, u.oneCell' = true)
    (hroom : n + m ≤ cap)
    (h : ∀ w', w'.ownsRow base e size (.slice (some ⟨g, 0, none⟩) (n + m) cap) (n + m) (xs ++ news) → w.grownBy w' (some g) → wpList P ops Q rest (a.put o.dst (.slice (some ⟨g, 0, none⟩) (n + m) cap)) w') : wpList P ops Q (o :: rest) a w :=
  wpList_plain hgd fun _ hK => by
    obtain ⟨w', hr, h2, h3⟩ := run_append_fits (P := P) w base t o.type e i size ht hi hsize g n cap xs hown ad m c news hl hnews h1 hroom
    unfold Oper.wp execOp
    simp only [ho, resolve, invoke, builtin, Sem.run_bind, Sem.run_pure, Result.andThen_ok, List.map_toArray, List.map_cons, List.map_nil, hs, hx, hr]
    exact hK _ _ (h w' h2 h3)

set_option maxRecDepth 100000 in
theorem appendRune (B g cap n : Nat) (xs : List Value) (r : Nat) (hr : r < 128) (w : World) (hown : w.ownsRow B 5 1 (.slice (some ⟨g, 0, none⟩) n cap) n xs) (hn : n + 1 ≤ cap) :
    Calls Tryz.prog 43 #[.slice (some ⟨g, 0, none⟩) n cap, .int .i32 (r : Int)] w fun e w' => e = .returned (.slice (some ⟨g, 0, none⟩) (n + 1) cap) ∧ w'.ownsRow B 5 1 (.slice (some ⟨g, 0, none⟩) (n + 1) cap) (n + 1) (xs ++ [.int .u8 (r : Int)]) ∧ w.grownBy w' (some g) := by
  obtain ⟨i0, hi, hz0, hz1, hz2⟩ := info_parts infoU8
  have HO := Lib.hid hown
  clear hown
  go_enter Tryz.func43, Tryz.ntmps43
  go_wp2_with (first
    | (at_builtin; refine wpList_append_fits _ rfl _ _ 79 rfl B 5 i0 1 Tryz.underlying79 hi hz1 g n cap xs rfl (HO.out.alloc _) ⟨w.heap.size, 0, none⟩ 1 1 [.int .u8 (r : Int)] rfl rfl (cell_one_new _ _ _) (by intro u hu; simp at hu; subst hu; rfl) hn ?_; intro w2 hown2 hg2)
    | go_in)
  go_ret
  exact ⟨rfl, hown2, grownBy_new (World.grownBy_alloc _ _ _) hg2 (fun b hb => .inr hb)⟩

theorem cells_two {w : World} {b : Nat} {u v : Value} {t : TypeId} (h : w.heap[b]? = some (.cells #[u, v] t (0, 0))) : w.cell? ⟨b, 0, none⟩ = some u ∧ w.cell? ⟨b, 1, none⟩ = some v ∧ w.frozen? ⟨b, 1, none⟩ = false ∧ w.frozen? ⟨b, 0, none⟩ = false := by
  simp [World.cell?, World.frozen?, h]
set_option maxRecDepth 100000 in
theorem writeTpl (B b g cap : Nat) (x : Bs) (r : UInt8) (hr : r.toNat < 128) (w : World) (hT : Tpl w B b g cap x) (hn : x.length + 1 ≤ cap) :
    Calls Tryz.prog 34 #[.pointer (some ⟨b, 0, none⟩), .int .i32 (r.toNat : Int)] w fun e w' => (∃ v, e = .returned v) ∧ Tpl w' B b g cap (x ++ [r]) ∧ Two w w' b g := by
  have c0 := (cells_two hT.blk).1
  have c1 := (cells_two hT.blk).2.1
  have HCC := Lib.hid (Tryz.Builder_copyCheck_used b w c0)
  have HAR := Lib.hid (appendRune B g cap x.length (Lib.byteCells x) r.toNat hr w hT.own hn)
  have HT := Lib.hid hT
  clear hT
  go_enter Tryz.func34, Tryz.ntmps34
  go_wp2_with fail
  refine HCC.out.mono ?_
  rintro e w1 ⟨rfl, rfl⟩
  go_wp2_with fail
  refine HAR.out.mono ?_
  rintro e w2 ⟨rfl, hown2, hg2⟩
  have hb2 : w2.heap[b]? = some (.cells #[.pointer (some ⟨b, 0, none⟩), .slice (some ⟨g, 0, none⟩) x.length cap] 81 (0, 0)) := by
    rw [hg2.block b HT.out.lt.1 (by simp; exact HT.out.ne)]
    exact HT.out.blk
  obtain ⟨d0, d1, f1, f0⟩ := cells_two hb2
  have HG2 := Lib.hid hg2
  have HO2 := Lib.hid hown2
  have HB2 := Lib.hid hb2
  clear hown2 hg2 hb2
  go_wp2_with fail
  go_ret2
  refine ⟨⟨_, rfl⟩, ?_, ?_⟩
  · refine ⟨HT.out.hB, ?_, ?_, HT.out.ne⟩
    · rw [List.length_append, List.length_singleton]
      simp [World.setCell, Array.getElem?_modify, HB2.out]
    · rw [List.length_append, List.length_singleton, Lib.byteCells_append]
      exact own_heap HO2.out (Below.heap_setCell _ _ _ _ HT.out.ne.symm)
  · refine ⟨HG2.out.os, HG2.out.tape, HG2.out.output, by simpa using HG2.out.size, fun k hk hkb hkg => ?_⟩
    rw [Below.heap_setCell _ _ _ _ (fun e => hkb e)]
    exact HG2.out.block k hk (by simp; exact hkg)
end Go.Proofs.YtpdnjgbcnnjdiaaGreatDoor
