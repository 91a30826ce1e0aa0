/- Words on memory for the trie of path patterns: an append that keeps what the elder slice owned; how a slice that was handed on is owned again. -/
import Derived.Test.YtpdnjgbcnnjdiaaGreatDoorProg
import Derived.Below
import Derived.WalkKit
import Derived.KernelRfl
namespace Go.Proofs.YtpdnjgbcnnjdiaaGreatDoor
open Go Go.RowKit

section
variable {P : Program} {w w' w1 w2 : World}

/-- An append to a slice that the call owns: the elder slice still owns what it owned. -/
theorem append_keep (base : Nat) (t ty e : TypeId) (i : TypeInfo) (z : Value) (size bytes : Nat) (ht : P.underlying t = some (.slice e)) (hi : P.info? e = some i) (hz : i.zero = some z)
    (hsize : i.size = size) (hby : i.bytes = bytes) (hzs : z.cells.size = size) (hsz : 0 < size)
    (v : Value) (n : Nat) (xs : List Value) (hown : w.ownsRow base e size v n xs)
    (a : Addr) (m c : Nat) (hm : 0 < m) (news : List Value) (hl : news.length = m * size) (hnews : ∀ j u, news[j]? = some u → w.cell? (a.add j) = some u) (h1 : ∀ u ∈ news, u.oneCell' = true)
    (h63 : n + m ≤ 1000000) (hbytes : bytes ≤ 1000) (hbase : base ≤ w.heap.size) :
    ∃ v' w', (Builtin.append_ #[t, t] ty #[v, .slice (some a) m c]).run P w = .ok v' w' ∧ w'.ownsRow base e size v' (n + m) (xs ++ news) ∧ w.grownBy w' v.ownBlock ∧
      w'.ownsRow base e size v n xs ∧ ((w.grownBy w' none ∧ ∃ b, v'.ownBlock = some b ∧ w.heap.size ≤ b) ∨ (∃ b, v.ownBlock = some b ∧ v'.ownBlock = some b)) := by
  subst hsize
  subst hby
  have hmul : (n + m) * i.bytes ≤ 1000000 * 1000 := Nat.mul_le_mul h63 hbytes
  have hx := hown
  rcases hown.2 with ⟨rfl, rfl⟩ | ⟨g, cap, cur, rfl, hbg, hg, hnc, hcm, hcs, htake⟩
  · have hxs : xs = [] := List.eq_nil_of_length_eq_zero (by simpa using hown.1)
    subst hxs
    have hr := run_append_nil (P := P) w t ty e i z ht hi hz a m c news hl hnews (by omega) (by omega) (by simp only [Nat.zero_add] at hmul; omega)
    have hge := grownCap_ge w m 0 e
    have hcm' : grownCap w m 0 e ≤ maxLen := grownCap_le_maxLen w m 0 e (by simp only [maxLen]; omega)
    refine ⟨_, _, hr, ⟨by simpa using hl, .inr ⟨w.heap.size, grownCap w m 0 e, news.toArray ++ Builtin.zeroCells z.cells (grownCap w m 0 e - m), by simp, hbase, heap_alloc_new w.drew _, by omega, hcm', ?_, ?_⟩⟩, ?_, ?_, ?_⟩
    · simp only [Array.size_append, List.size_toArray, size_zeroCells, hzs, hl, ← Nat.add_mul]
      congr 1
      omega
    · simp only [Array.toList_append, Nat.zero_add, List.nil_append]
      rw [← hl]
      exact List.take_left
    · exact ⟨rfl, rfl, rfl, by simp, fun k hk _ => heap_alloc_old w.drew _ hk⟩
    · exact World.ownsRow_nil _ _ _ _
    · exact Or.inl ⟨⟨rfl, rfl, rfl, by simp, fun k hk _ => heap_alloc_old w.drew _ hk⟩, _, rfl, Nat.le_refl _⟩
  · by_cases hroom : n + m ≤ cap
    · obtain ⟨w', hr, ho, hgr⟩ := run_append_fits (P := P) w base t ty e i i.size ht hi rfl g n cap xs hx a m c news hl hnews h1 hroom
      refine ⟨_, w', hr, ho, hgr, ?_, Or.inr ⟨g, rfl, rfl⟩⟩
      refine ⟨hx.1, ?_⟩
      rcases ho.2 with ⟨h', _⟩ | ⟨g', cap', cur', h', hbg', hg', hnc', hcm', hcs', htake'⟩
      · simp at h'
      · simp only [Value.slice.injEq, Option.some.injEq, Addr.mk.injEq, and_true, true_and] at h'
        obtain ⟨rfl, rfl⟩ := h'
        refine .inr ⟨g, cap, cur', rfl, hbg', hg', hnc, hcm', hcs', ?_⟩
        have hlen : n * i.size ≤ (n + m) * i.size := Nat.mul_le_mul_right _ (by omega)
        have := congrArg (List.take (n * i.size)) htake'
        rw [List.take_take, Nat.min_eq_left hlen] at this
        rw [this, ← hx.1]
        exact List.take_left
    · have holds : ∀ j u, xs[j]? = some u → w.cell? ((⟨g, 0, none⟩ : Addr).add j) = some u := hx.cells (g := g) rfl
      have hr := run_append_grow (P := P) w t ty e i z ht hi hz ⟨g, 0, none⟩ n cap xs hx.1 holds a m c news hl hnews (by omega) (by omega) (growslice_fits (by omega) (by omega))
      have hge := grownCap_ge w (n + m) cap e
      have hcm' : grownCap w (n + m) cap e ≤ maxLen := grownCap_le_maxLen w (n + m) cap e (by simp only [maxLen]; omega)
      have hlen : (xs ++ news).length = (n + m) * i.size := by rw [List.length_append, hx.1, hl, Nat.add_mul]
      have hgw : ∀ row, w.grownBy (w.drew.alloc (.cells (xs.toArray ++ news.toArray ++ Builtin.zeroCells z.cells (grownCap w (n + m) cap e - (n + m))) e)) row := fun row => ⟨rfl, rfl, rfl, by simp, fun k hk _ => heap_alloc_old w.drew _ hk⟩
      refine ⟨_, _, hr, ⟨hlen, .inr ⟨w.heap.size, _, _, rfl, hbase, heap_alloc_new w.drew _, hge, hcm', ?_, ?_⟩⟩, hgw _, ?_, Or.inl ⟨hgw none, _, rfl, Nat.le_refl _⟩⟩
      · simp only [Array.size_append, List.size_toArray, size_zeroCells, hzs, hx.1, hl, ← Nat.add_mul]
        congr 1
        omega
      · simp only [Array.toList_append, List.append_assoc]
        rw [← List.append_assoc, ← hlen]
        exact List.take_left
      · exact hx.kept (hgw none) (Or.inr (by simp [Value.ownBlock]))

theorem wpList_append_keep {ops : Array Oper} {rest : List Oper} {o : Oper} {a : Act} {Q : Exit → Act → World → Prop} (w : World) (hgd : o.guard = none) (s x : Operand) (t : TypeId)
    (ho : o.op = .call { callee := .builtin .append, args := #[s, x], argTypes := #[t, t] })
    (base : Nat) (e : TypeId) (i : TypeInfo) (z : Value) (size bytes : Nat) (ht : P.underlying t = some (.slice e)) (hi : P.info? e = some i) (hz : i.zero = some z)
    (hsize : i.size = size) (hby : i.bytes = bytes) (hzs : z.cells.size = size) (hsz : 0 < size)
    (v : Value) (n : Nat) (xs : List Value) (hs : a.eval s = v) (hown : w.ownsRow base e size v n xs)
    (ad : Addr) (m c : Nat) (hm : 0 < m) (news : List Value) (hx : a.eval x = .slice (some ad) m c) (hl : news.length = m * size) (hnews : ∀ j u, news[j]? = some u → w.cell? (ad.add j) = some u) (h1 : ∀ u ∈ news, u.oneCell' = true)
    (h63 : n + m ≤ 1000000) (hbytes : bytes ≤ 1000) (hbase : base ≤ w.heap.size)
    (h : ∀ v' w', w'.ownsRow base e size v' (n + m) (xs ++ news) → w.grownBy w' v.ownBlock → w'.ownsRow base e size v n xs → ((w.grownBy w' none ∧ ∃ b, v'.ownBlock = some b ∧ w.heap.size ≤ b) ∨ (∃ b, v.ownBlock = some b ∧ v'.ownBlock = some b)) → wpList P ops Q rest (a.put o.dst v') w') : wpList P ops Q (o :: rest) a w :=
  wpList_plain hgd fun _ hK => by
    obtain ⟨v', w', hr, h2, h3, h4, h5⟩ := append_keep (P := P) (w := w) base t o.type e i z size bytes ht hi hz hsize hby hzs hsz v n xs hown ad m c hm news hl hnews h1 h63 hbytes hbase
    unfold Oper.wp execOp
    simp only [ho, resolve, invoke, builtin, Sem.run_bind, Sem.run_pure, Result.andThen_ok, List.map_toArray, List.map_cons, List.map_nil, hs, hx, hr]
    exact hK _ _ (h v' w' h2 h3 h4 h5)

/-- A slice whose longer twin (over the same array, or over a new one) was handed to a call: it owns what it owned. -/
theorem own_back {base : Nat} {e : TypeId} {size : Nat} (hsz : 0 < size) {v v' : Value} {n n' : Nat} {xs ys : List Value} (h1 : w1.ownsRow base e size v n xs) (h1' : w1.ownsRow base e size v' n' (xs ++ ys)) (h2' : w2.ownsRow base e size v' n' (xs ++ ys))
    (hb : ∃ b, v.ownBlock = some b ∧ v'.ownBlock = some b) : w2.ownsRow base e size v n xs := by
  obtain ⟨b, hv, hv'⟩ := hb
  rcases h1.2 with ⟨rfl, _⟩ | ⟨g, cap, cur, rfl, hbg, hg, hnc, hcm, hcs, htake⟩
  · simp [Value.ownBlock] at hv
  rcases h1'.2 with ⟨rfl, _⟩ | ⟨g', cap', cur', rfl, hbg', hg', hnc', hcm', hcs', htake'⟩
  · simp [Value.ownBlock] at hv'
  simp only [Value.ownBlock, Option.some.injEq] at hv hv'
  subst hv
  subst hv'
  have hcc : cur = cur' := by rw [hg] at hg'; injection hg' with h; injection h
  subst hcc
  have hcap : cap = cap' := Nat.eq_of_mul_eq_mul_right hsz (by rw [← hcs, ← hcs'])
  subst hcap
  rcases h2'.2 with ⟨h', _⟩ | ⟨g2, cap2, cur2, h', hbg2, hg2, hnc2, hcm2, hcs2, htake2⟩
  · simp at h'
  · simp only [Value.slice.injEq, Option.some.injEq, Addr.mk.injEq, and_true, true_and] at h'
    obtain ⟨rfl, rfl⟩ := h'
    refine ⟨h1.1, .inr ⟨g', cap, cur2, rfl, hbg, hg2, hnc, hcm, hcs2, ?_⟩⟩
    have hle : n * size ≤ n' * size := by rw [← h1.1, ← h1'.1, List.length_append]; omega
    have := congrArg (List.take (n * size)) htake2
    rw [List.take_take, Nat.min_eq_left hle] at this
    rw [this, ← h1.1]
    exact List.take_left

theorem grownBy_refl (w : World) (r : Option Nat) : w.grownBy w r := ⟨rfl, rfl, rfl, Nat.le_refl _, fun _ _ _ => rfl⟩
theorem grownBy_trans {r : Option Nat} (h : w.grownBy w1 r) (k : w1.grownBy w2 r) : w.grownBy w2 r :=
  ⟨k.os.trans h.os, k.tape.trans h.tape, k.output.trans h.output, Nat.le_trans h.size k.size, fun b hb hn => (k.block b (Nat.lt_of_lt_of_le hb h.size) hn).trans (h.block b hb hn)⟩
theorem grownBy_new {r r' : Option Nat} (h : w.grownBy w1 r) (k : w1.grownBy w2 r') (hr : ∀ b, r' = some b → w.heap.size ≤ b ∨ r = some b) : w.grownBy w2 r :=
  ⟨k.os.trans h.os, k.tape.trans h.tape, k.output.trans h.output, Nat.le_trans h.size k.size, fun b hb hn => (k.block b (Nat.lt_of_lt_of_le hb h.size) (fun e => (hr b e.symm).elim (fun h2 => by omega) (fun h2 => hn h2.symm))).trans (h.block b hb hn)⟩
theorem grownBy_below {r : Option Nat} {B : Nat} (h : w.grownBy w1 r) (hB : B ≤ w.heap.size) (hr : ∀ b, r = some b → B ≤ b) : Below B w w1 :=
  ⟨h.os, h.tape, h.output, h.size, fun b hb => h.block b (by omega) (fun e => by have := hr b e.symm; omega)⟩
theorem grownBy_alloc' {r : Option Nat} (h : w.grownBy w1 r) (o : Obj) : w.grownBy (w1.alloc o) r := grownBy_new h (World.grownBy_alloc w1 o none) (by simp)
theorem grownBy_drew {r : Option Nat} (h : w.grownBy w1 r) : w.grownBy w1.drew r := ⟨h.os, h.tape, h.output, h.size, h.block⟩
theorem own_drew {base : Nat} {e : TypeId} {size : Nat} {v : Value} {n : Nat} {xs : List Value} (h : w.ownsRow base e size v n xs) : w.drew.ownsRow base e size v n xs := h
end

end Go.Proofs.YtpdnjgbcnnjdiaaGreatDoor
