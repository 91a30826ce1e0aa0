/- laws.routed answers true. -/
import Derived.Test.YtpdnjgbcnnjdiaaGreatDoorLook
import Derived.Test.YtpdnjgbcnnjdiaaGreatDoorCutSame
namespace Go.Proofs.YtpdnjgbcnnjdiaaGreatDoor
open Go Go.RowKit Go.Proofs.YtpdnjgbcnnjdiaaGreatDoorW.PrintWords Go.Proofs.YtpdnjgbcnnjdiaaGreatDoor.PFnFind
set_option linter.unusedVariables false
set_option linter.unusedSimpArgs false

def rT1 : List Tok := [(0, [47]), (0, [97]), (0, [47]), (2, [])]
def rT2 : List Tok := [(0, [47]), (0, [98])]
def rL : PL := [(rT1, [47, 97, 47, 123, 105, 100, 125]), (rT2, [47, 98])]
theorem rL_good : Good rL := by
  intro e he
  simp only [rL, List.mem_cons, List.not_mem_nil, or_false] at he
  rcases he with rfl | rfl
  · refine ⟨[[105, 100]], ?_⟩
    show Toks (stripAll [47, 97, 47, 123, 105, 100, 125]) rT1 [[105, 100]]
    rw [show stripAll [47, 97, 47, 123, 105, 100, 125] = [47, 97, 47, 123, 105, 100, 125] from by decide]
    refine .slash (.const (c := [97]) (r := [47, 123, 105, 100, 125]) (by decide) ?_ (.inr ⟨_, rfl⟩) (.slash ?_))
    · intro b hb
      simp at hb
      subst hb
      exact ⟨by decide, by decide, by decide⟩
    · refine .var (nm := [105, 100]) (r := []) ?_ .nil
      intro b hb
      simp at hb
      rcases hb with rfl | rfl <;> exact ⟨by decide, by decide, by decide⟩
  · refine ⟨[], ?_⟩
    show Toks (stripAll [47, 98]) rT2 []
    rw [show stripAll [47, 98] = [47, 98] from by decide]
    refine .slash (.const (c := [98]) (r := []) (by decide) ?_ (.inl rfl) .nil)
    intro b hb
    simp at hb
    subst hb
    exact ⟨by decide, by decide, by decide⟩
theorem rL_len : ∀ e ∈ rL, e.2.length ≤ 100 := by
  intro e he
  simp only [rL, List.mem_cons, List.not_mem_nil, or_false] at he
  rcases he with rfl | rfl <;> decide

theorem r7 : mt rT1 (stripAll [47, 97, 47, 55]) [] = some [[55]] := by decide
theorem r7' : mt rT2 (stripAll [47, 97, 47, 55]) [] = none := by decide
theorem rc : mt rT1 (stripAll [47, 99]) [] = none := by decide
theorem rc' : mt rT2 (stripAll [47, 99]) [] = none := by decide

theorem ans7 {w w' : World} {e : Ending} (h : Ans rL [47, 97, 47, 55] w e w') : Below w.heap.size w w' ∧ ∃ v, e = .returned (.tuple #[.string (mkS [47, 97, 47, 123, 105, 100, 125]), v, .bool true, .int .i64 0]) ∧ w'.ownsRow w.heap.size 9 1 v 1 (strs [[55]]) := by
  obtain ⟨hb, h⟩ := h
  refine ⟨hb, ?_⟩
  rcases h with ⟨_, h⟩ | ⟨v, ts, key, ys, hm, hy, _, he, ho⟩
  · have := h (rT1, [47, 97, 47, 123, 105, 100, 125]) (by simp [rL])
    rw [r7] at this
    cases this
  · simp only [rL, List.mem_cons, List.not_mem_nil, or_false, Prod.mk.injEq] at hm
    rcases hm with ⟨rfl, rfl⟩ | ⟨rfl, rfl⟩
    · rw [r7] at hy
      injection hy with hy
      subst hy
      exact ⟨v, he, ho⟩
    · rw [r7'] at hy
      cases hy
theorem ansc {w w' : World} {e : Ending} (h : Ans rL [47, 99] w e w') : Below w.heap.size w w' ∧ e = .returned (.tuple #[.string ⟨#[]⟩, .slice none 0 0, .bool false, .int .i64 0]) := by
  obtain ⟨hb, h⟩ := h
  refine ⟨hb, ?_⟩
  rcases h with ⟨he, _⟩ | ⟨v, ts, key, ys, hm, hy, _, he, ho⟩
  · exact he
  · simp only [rL, List.mem_cons, List.not_mem_nil, or_false, Prod.mk.injEq] at hm
    rcases hm with ⟨rfl, rfl⟩ | ⟨rfl, rfl⟩
    · rw [rc] at hy; cases hy
    · rw [rc'] at hy; cases hy

theorem same_l0 (X Y : List ByteArray) (hl : X.length = Y.length) (hb : X.length < 2 ^ 62) : ∀ (n k i : Nat), X.length - i < n → i ≤ X.length → n ≤ k → laws_sameTexts.l0 k X Y X.length i = some (decide ((X.drop i).map (·.data.toList) = (Y.drop i).map (·.data.toList))) := by
  intro n
  induction n with
  | zero => intro k i h; omega
  | succ n ih =>
    intro k i hn hi hk
    obtain ⟨k, rfl⟩ : ∃ m, k = m + 1 := ⟨k - 1, by omega⟩
    unfold laws_sameTexts.l0
    by_cases h : i < X.length
    · have hw : wrap64 ((i : Int) + 1) = ((i + 1 : Nat) : Int) := by
        unfold wrap64; omega
      rw [if_pos (by omega), if_pos (by omega), if_pos (by omega), if_pos (by omega), hw, ih k (i + 1) (by omega) (by omega) (by omega)]
      rw [List.drop_eq_getElem_cons h, List.drop_eq_getElem_cons (show i < Y.length by omega)]
      rw [show rdOf ByteArray.empty X (i : Int) = X[i] from by simp [rdOf, List.getD, h], show rdOf ByteArray.empty Y (i : Int) = Y[i] from by simp [rdOf, List.getD, show i < Y.length by omega]]
      simp only [List.map_cons, List.cons.injEq]
      rw [toL, toL]
      by_cases he : X[i].data.toList = Y[i].data.toList
      · rw [if_pos he]; simp [he]
      · rw [if_neg he]; simp [he]
    · rw [if_neg (by omega)]
      have : i = X.length := by omega
      subst this
      simp [hl]
theorem same_f (X Y : List ByteArray) (hb : X.length < 2 ^ 62) (k : Nat) (hk : X.length < k) : laws_sameTexts.f k X Y = some (decide (X.map (·.data.toList) = Y.map (·.data.toList))) := by
  unfold laws_sameTexts.f
  by_cases h : X.length = Y.length
  · rw [if_pos (by omega)]
    have := same_l0 X Y h hb (X.length + 1) k 0 (by omega) (by omega) (by omega)
    simpa using this
  · rw [if_neg (by omega)]
    have : X.map (·.data.toList) ≠ Y.map (·.data.toList) := fun hh => h (by simpa using congrArg List.length hh)
    simp [this]

theorem two_cells (w : World) (a b : ByteArray) (k : Nat) (h : k < 2) : ∃ ad, some (⟨w.heap.size, 0, none⟩ : Addr) = some ad ∧ (w.alloc (.cells #[.string a, .string b] 9)).cell? (ad.add k) = some (.string (if k = 0 then a else b)) := by
  refine ⟨_, rfl, ?_⟩
  have := cell_two_new w (.string a) (.string b) 9 k
  match k, h with
  | 0, _ => exact this _ rfl
  | 1, _ => exact this _ rfl

set_option maxHeartbeats 1000000 in
theorem routed (w : World) (hTab : Hid (∀ W, Below w.heap.size w W → Lib.TabIs Tryz.prog W "strings.asciiSpace" .u8 Lib.asciiSpaceTab)) :
    Calls Tryz.prog 9 #[] w fun e w' => e = .returned (.bool true) ∧ Below w.heap.size w w' := by
  have h1 : ∀ (W : World), Below w.heap.size w W → Calls Tryz.prog 15 #[.slice (some ⟨W.heap.size, 0, none⟩) 2 2, .string ⟨#[47, 97, 47, 55]⟩] (W.alloc (.cells #[.string ⟨#[47, 97, 47, 123, 105, 100, 125]⟩, .string ⟨#[47, 98]⟩] 9)) (Ans rL [47, 97, 47, 55] (W.alloc (.cells #[.string ⟨#[47, 97, 47, 123, 105, 100, 125]⟩, .string ⟨#[47, 98]⟩] 9))) := fun W hW =>
    (implMatch (some ⟨W.heap.size, 0, none⟩) 2 rL (W.alloc (.cells #[.string ⟨#[47, 97, 47, 123, 105, 100, 125]⟩, .string ⟨#[47, 98]⟩] 9)) ⟨#[47, 97, 47, 55]⟩ (by decide) (by decide) rL_good rL_len (fun k hk => by
      obtain ⟨ad, h1, h2⟩ := two_cells W ⟨#[47, 97, 47, 123, 105, 100, 125]⟩ ⟨#[47, 98]⟩ k hk
      refine ⟨ad, h1, ?_⟩
      rw [h2]
      match k, hk with
      | 0, _ => rfl
      | 1, _ => rfl) (fun W' hW' => hTab.out W' (hW.trans (((Below.refl _ W).alloc hW.size _).trans (hW'.mono (by simp; have := hW.size; omega)))))).mono fun e w' h => ans_of rL_good rL_len h
  have h2 : ∀ (W : World), Below w.heap.size w W → Calls Tryz.prog 15 #[.slice (some ⟨W.heap.size, 0, none⟩) 2 2, .string ⟨#[47, 99]⟩] (W.alloc (.cells #[.string ⟨#[47, 97, 47, 123, 105, 100, 125]⟩, .string ⟨#[47, 98]⟩] 9)) (Ans rL [47, 99] (W.alloc (.cells #[.string ⟨#[47, 97, 47, 123, 105, 100, 125]⟩, .string ⟨#[47, 98]⟩] 9))) := fun W hW =>
    (implMatch (some ⟨W.heap.size, 0, none⟩) 2 rL (W.alloc (.cells #[.string ⟨#[47, 97, 47, 123, 105, 100, 125]⟩, .string ⟨#[47, 98]⟩] 9)) ⟨#[47, 99]⟩ (by decide) (by decide) rL_good rL_len (fun k hk => by
      obtain ⟨ad, h1, h2⟩ := two_cells W ⟨#[47, 97, 47, 123, 105, 100, 125]⟩ ⟨#[47, 98]⟩ k hk
      refine ⟨ad, h1, ?_⟩
      rw [h2]
      match k, hk with
      | 0, _ => rfl
      | 1, _ => rfl) (fun W' hW' => hTab.out W' (hW.trans (((Below.refl _ W).alloc hW.size _).trans (hW'.mono (by simp; have := hW.size; omega)))))).mono fun e w' h => ans_of rL_good rL_len h
  have H1 := Lib.hid h1
  have H2 := Lib.hid h2
  clear h1 h2
  go_enter Tryz.func9, Tryz.ntmps9
  go_wp2_with fail
  refine (H1.out w (Below.refl _ _)).mono ?_
  rintro e w1 hans
  obtain ⟨hb1, v, rfl, ho⟩ := ans7 hans
  have hbw1 : Below w.heap.size w w1 := ((Below.refl _ w).alloc (Nat.le_refl _) _).trans (hb1.mono (by simp))
  have HO := Lib.hid ho
  have HB1 := Lib.hid hbw1
  clear hans hb1 ho hbw1
  go_wp2_with fail
  refine (H2.out w1 HB1.out).mono ?_
  rintro e w2 hans
  obtain ⟨hb2, rfl⟩ := ansc hans
  have hbw2 : Below w.heap.size w w2 := HB1.out.trans (((Below.refl w1.heap.size w1).alloc (Nat.le_refl _) _).trans (hb2.mono (by simp)) |>.mono HB1.out.size)
  have HB2 := Lib.hid hbw2
  have hR0 : Kd.R Kd.string 9 w1 (w.heap.size + 1) (fun _ => True) v [mkS [55]] := Kd.R_of_own (by simpa [strs, encs] using HO.out) (fun _ _ => trivial)
  have hR1 := Kd.R_alloc (Kd.R_below (Kd.R_alloc hR0 (.cells #[.string ⟨#[47, 97, 47, 123, 105, 100, 125]⟩, .string ⟨#[47, 98]⟩] 9)) hb2) (.cells #[.string ⟨#[55]⟩] 9)
  obtain ⟨A, c, rfl, hc, hC⟩ := Kd.R_reads hR1
  have hS : Kd.R Kd.string 9 (w2.alloc (.cells #[.string ⟨#[55]⟩] 9)) w2.heap.size (fun _ => True) (.slice (some ⟨w2.heap.size, 0, none⟩) 1 1) [⟨#[55]⟩] := Kd.R_of_own (by have := World.ownsRow_lit (e := 9) (size := 1) w2 #[.string ⟨#[55]⟩] 1 (Nat.le_refl _) (by decide) rfl; simpa [encs] using this) (fun _ _ => trivial)
  have hst := laws_sameTexts.calls 5 A c [mkS [55]] (some ⟨w2.heap.size, 0, none⟩) 1 [⟨#[55]⟩] true _ hC hc (Kd.R_reads' hS).2.2 (by decide) (by rw [same_f _ _ (by decide) _ (by decide)]; rfl)
  have hkey : ((mkS [47, 97, 47, 123, 105, 100, 125]).toList == [47, 97, 47, 123, 105, 100, 125]) = true := by rw [mkS_toL]; rfl
  have HST := Lib.hid hst
  clear hans hb2 hbw2 hR0 hR1 hS hst hC hc
  go_wp2_with fail
  refine HST.out.mono ?_
  rintro e w3 ⟨rfl, hd⟩
  have hb3 := HB2.out
  have hd3 := Drawn0.below hd
  have HQ := Lib.hid hb3
  have HD := Lib.hid hd3
  clear hb3 hd3 hd
  go_wp2_with fail
  go_ret
  refine ⟨rfl, HQ.out.trans ?_⟩
  exact (((Below.refl w2.heap.size w2).alloc (Nat.le_refl _) _).trans (HD.out.mono (by simp))).mono HQ.out.size
end Go.Proofs.YtpdnjgbcnnjdiaaGreatDoor
