/- impl.Variables; the tokens of a list of pieces. -/
import Derived.Test.YtpdnjgbcnnjdiaaDoorPurePc
namespace Go.Proofs.YtpdnjgbcnnjdiaaDoor
open Go Go.RowKit Go.Proofs.YtpdnjgbcnnjdiaaDoorW.PrintWords Go.Proofs.YtpdnjgbcnnjdiaaDoor.PFnMatchBack
set_option linter.unusedVariables false
set_option linter.unusedSimpArgs false

/-- The tokens of a list of pieces, the names of its variables. -/
def tokP (l : List S33) : List Tok := l.flatMap fun x => [(0, [47]), if x.f0 = true then (2, []) else (0, x.f1.data.toList)]
def namP (l : List S33) : List Bs := l.flatMap fun x => if x.f0 = true then [x.f1.data.toList] else []
theorem lett_const {s : ByteArray} (h : Lett s) : ∀ b ∈ s.data.toList, constB b := by
  intro b hb
  have := h.2.2 b hb
  unfold lettB at this
  refine ⟨by omega, ?_, ?_⟩ <;> (rintro rfl; simp at this)
theorem lett_name {s : ByteArray} (h : Lett s) : (∀ b ∈ s.data.toList, nameB b) ∧ kindOfName s.data.toList = 2 := by
  constructor
  · intro b hb
    have := h.2.2 b hb
    unfold lettB at this
    refine ⟨by omega, by omega, ?_⟩
    rintro rfl
    simp at this
  · unfold kindOfName
    rw [if_neg]
    rintro ⟨t, ht⟩
    have := h.2.2 42 (by rw [← ht]; simp)
    simp [lettB] at this
theorem lett_ne {s : ByteArray} (h : Lett s) : s.data.toList ≠ [] := by
  intro e
  have h1 := h.1
  rw [← size_list, e] at h1
  simp at h1
theorem toks_pat : ∀ (l : List S33), (∀ x ∈ l, Lett x.f1) → Toks (patB l) (tokP l) (namP l)
  | [], _ => .nil
  | x :: r, h => by
    have hx := h x (List.mem_cons_self ..)
    have ih := toks_pat r fun y hy => h y (List.mem_cons_of_mem _ hy)
    have h1 : patB (x :: r) = pieceB x ++ patB r := rfl
    have h2 : tokP (x :: r) = (0, [47]) :: (if x.f0 = true then (2, []) else (0, x.f1.data.toList)) :: tokP r := rfl
    have h3 : namP (x :: r) = (if x.f0 = true then [x.f1.data.toList] else []) ++ namP r := rfl
    rw [h1, h2, h3]
    unfold pieceB
    by_cases hv : x.f0 = true
    · rw [if_pos hv, if_pos hv, if_pos hv]
      obtain ⟨n1, n2⟩ := lett_name hx
      have := Toks.var n1 ih
      rw [n2] at this
      refine .slash ?_
      simpa using this
    · rw [if_neg hv, if_neg hv, if_neg hv]
      refine .slash (.const (lett_ne hx) (lett_const hx) ?_ ih)
      cases r with
      | nil => exact .inl rfl
      | cons y r' =>
        refine .inr ?_
        have h4 : patB (y :: r') = pieceB y ++ patB r' := rfl
        rw [h4]
        unfold pieceB
        split <;> exact ⟨_, rfl⟩
theorem pat_noslash : ∀ (l : List S33), (∀ x ∈ l, Lett x.f1) → ¬ [47] <:+ patB l
  | [], _ => by simp [patB]
  | x :: r, h => by
    have hx := h x (List.mem_cons_self ..)
    have ih := pat_noslash r fun y hy => h y (List.mem_cons_of_mem _ hy)
    have h1 : patB (x :: r) = pieceB x ++ patB r := rfl
    rw [h1]
    cases r with
    | nil =>
      rintro ⟨t, ht⟩
      have hl : (pieceB x ++ patB []).getLast? = some 47 := by rw [← ht]; simp
      have h2 : patB [] = [] := rfl
      rw [h2, List.append_nil] at hl
      unfold pieceB at hl
      split at hl
      · have : (47 :: 123 :: (x.f1.data.toList ++ [125]) : Bs) = (47 :: 123 :: x.f1.data.toList) ++ [125] := rfl
        rw [this, List.getLast?_append] at hl
        simp at hl
      · have hne := lett_ne hx
        rw [List.getLast?_cons, List.getLast?_eq_some_getLast hne] at hl
        have := (lett_const hx) _ (List.getLast_mem hne)
        generalize x.f1.data.toList.getLast hne = z at hl this
        simp at hl
        exact this.2.1 hl
    | cons y r' =>
      rintro ⟨t, ht⟩
      refine ih ?_
      have hne : patB (y :: r') ≠ [] := by
        have h4 : patB (y :: r') = pieceB y ++ patB r' := rfl
        rw [h4]
        unfold pieceB
        split <;> simp
      have hl : (pieceB x ++ patB (y :: r')).getLast? = some 47 := by rw [← ht]; simp
      rw [List.getLast?_append, List.getLast?_eq_some_getLast hne] at hl
      simp at hl
      exact ⟨(patB (y :: r')).dropLast, by rw [← hl]; exact List.dropLast_concat_getLast hne⟩
theorem toks_strip (l : List S33) (h : ∀ x ∈ l, Lett x.f1) : Toks (stripAll (patB l)) (tokP l) (namP l) := by
  rw [stripAll_other _ (pat_noslash l h)]
  exact toks_pat l h

theorem namP_len (l : List S33) : (namP l).length ≤ l.length := by
  induction l with
  | nil => simp [namP]
  | cons a r ih =>
    have h3 : namP (a :: r) = (if a.f0 = true then [a.f1.data.toList] else []) ++ namP r := rfl
    rw [h3, List.length_append, List.length_cons]
    split <;> simp <;> omega

theorem stripAll_len (l : Bs) : (stripAll l).length ≤ l.length := by
  unfold stripAll
  rw [List.length_reverse]
  have := (List.dropWhile_suffix (p := (· == (47 : UInt8))) (l := l.reverse)).length_le
  simpa using this
theorem wpList_append_none {P : Program} {ops : Array Oper} {rest : List Oper} {o : Oper} {a : Act} {Q : Exit → Act → World → Prop} (w : World) (hgd : o.guard = none) (s x : Operand) (t : TypeId)
    (ho : o.op = .call { callee := .builtin .append, args := #[s, x], argTypes := #[t, t] })
    (base : Nat) (e : TypeId) (i : TypeInfo) (size : Nat) (ht : P.underlying t = some (.slice e)) (hi : P.info? e = some i)
    (v : Value) (n : Nat) (xs : List Value) (hs : a.eval s = v) (hown : w.ownsRow base e size v n xs) (hx : a.eval x = .slice none 0 0) (h : wpList P ops Q rest (a.put o.dst v) w) : wpList P ops Q (o :: rest) a w :=
  wpList_plain hgd fun _ hK => by
    have hr := run_append_owned_none (P := P) w base t o.type e i size ht hi v n xs hown
    unfold Oper.wp execOp
    simp only [ho, resolve, invoke, builtin, Sem.run_bind, Sem.run_pure, Result.andThen_ok, List.map_toArray, List.map_cons, List.map_nil, hs, hx, hr]
    exact hK _ _ h

set_option maxHeartbeats 1000000 in
theorem implVariables (s : ByteArray) (hs : s.size ≤ 1000) (ts : List Tok) (ns : List Bs) (hT : Toks (stripAll s.data.toList) ts ns) (w : World) (hTab : Hid (∀ W, Below w.heap.size w W → Lib.TabIs Tryd.prog W "strings.asciiSpace" .u8 Lib.asciiSpaceTab)) :
    Calls Tryd.prog 19 #[.string s] w fun e w' => (∃ v, e = .returned (.tuple #[v, .int .i64 0]) ∧ w'.ownsRow w.heap.size 9 1 v ns.length (strs ns)) ∧ Below w.heap.size w w' := by
  have hcr := create w.heap.size (SL []) (VL []) (M0 w.heap.size) (w.alloc (.cells #[.slice none 0 0, .nilIface, .slice none 0 0] 54)) (rep0 w w.heap.size (Nat.le_refl _)) (by simp) s hs ts ns hT
    (fun W hW => hTab.out W (((Below.refl _ _).alloc (Nat.le_refl _) _).trans hW)) (by intro q; simp [M0]) (by intro q hq; rfl) (by intro q; simp [M0, Srt])
  have HC := Lib.hid hcr
  have hT0 := Lib.hid hT
  clear hcr hT
  obtain ⟨i0, hi, hz0, hz1, hz2⟩ := info_parts infoStr
  go_enter Tryd.func19, Tryd.ntmps19
  go_wp2_with fail
  refine HC.out.mono ?_
  rintro e w1 ⟨M', rfl, hR1, hb1, hn1, hk1, hs1, hown⟩
  have hSp : SL [] ts ∨ ts <+: ts := .inr List.prefix_rfl
  obtain ⟨c0, c1, c2⟩ := hR1.cell hSp
  have hbel : Below w.heap.size w w1 := ((Below.refl _ w).alloc (Nat.le_refl _) _).trans hb1
  have HB := Lib.hid hbel
  have HN := Lib.hid (Toks.len hT0.out)
  clear hR1 hb1 hn1 hk1 hs1 hbel hT0
  have hz := World.ownsRow_nil w1 w.heap.size 9 1
  have HZ := Lib.hid hz
  have hbs := HB.out.size
  have hnl := HN.out.2.1
  have hsl := stripAll_len s.data.toList
  rw [size_list] at hsl
  clear hz HN
  rcases hown.2 with ⟨hv, hn0⟩ | ⟨g, cap, cur, hv, hbg, hg, hnc, hcm, hcs, htake⟩
  · have hns : ns = [] := List.eq_nil_of_length_eq_zero hn0
    subst hns
    rw [hv] at c0
    clear hv hown
    go_wp2_with (at_builtin; refine wpList_append_none _ rfl _ _ 22 rfl w.heap.size 9 i0 1 Tryd.underlying22 hi (.slice none 0 0) 0 [] rfl HZ.out rfl ?_)
    go_ret2
    exact ⟨⟨_, rfl, HZ.out⟩, HB.out⟩
  · rw [hv] at c0
    have hcell := hown.cells (g := g) (by rw [hv]; rfl)
    have HCE := Lib.hid hcell
    clear hv hown hg htake hcell
    go_wp2_with (at_builtin; refine wpList_append_own _ rfl _ _ 22 rfl w.heap.size 9 i0 (.string ⟨#[]⟩) 1 16 Tryd.underlying22 hi hz0 hz1 hz2 rfl (by decide) (.slice none 0 0) 0 [] rfl HZ.out ⟨g, 0, none⟩ ns.length cap (strs ns) rfl (by simp [strs]) HCE.out (strs_one ns) (by unfold maxLen; omega) (by omega) hbs ?_; intro v2 w2 hown2 hg2 hn2; have HO2 := Lib.hid hown2; have HB2 := Lib.hid (HB.out.trans (grownBy_below hg2 hbs (by simp [Value.ownBlock]))); clear hown2 hg2 hn2)
    go_ret2
    exact ⟨⟨_, rfl, by simpa using HO2.out⟩, HB2.out⟩
end Go.Proofs.YtpdnjgbcnnjdiaaDoor
