/- zzCount of closing braces; slices.SortFunc over texts. -/
import Derived.Test.YtpdnjgbcnnjdiaaDoorPathsMap
import Derived.Test.YtpdnjgbcnnjdiaaDoorSort
import Derived.Sort.OwnSorted
import Derived.Shelf.SlSortCmp.Small
namespace Go.Proofs.YtpdnjgbcnnjdiaaDoor
open Go Go.RowKit Go.Sort
set_option linter.unusedVariables false
set_option linter.unusedSimpArgs false

/-- How many closing braces a text has. -/
def cntB (l : Bs) : Nat := (l.filter (· == 125)).length
theorem cntB_snoc (l : Bs) (b : UInt8) : cntB (l ++ [b]) = cntB l + (if b = 125 then 1 else 0) := by
  unfold cntB
  rw [List.filter_append, List.length_append]
  by_cases h : b = 125 <;> simp [h]
theorem cntB_le (l : Bs) : cntB l ≤ l.length := List.length_filter_le _ _
theorem ext_one (s : ByteArray) (i : Nat) (h : i < s.data.toList.length) : (s.extract i (i + 1)).data.toList = [s.data.toList[i]] := by
  rw [ext_list, Nat.add_sub_cancel_left, List.drop_eq_getElem_cons h]
  rfl

set_option maxRecDepth 10000 in
theorem zzCount (s : ByteArray) (w : World) (hs : s.size ≤ 1000) :
    Calls Tryd.prog 59 #[.string s, .string ⟨#[125]⟩] w fun e w' => e = .returned (.int .i64 (cntB s.data.toList)) ∧ w' = w := by
  go_enter Tryd.func59, Tryd.ntmps59
  go_wp2_with fail
  go_loopg [5, 6] s.size (fun g v5 v6 wr => ∃ i : Nat, i + g = s.size ∧ v5 = .int .i64 (cntB (s.data.toList.take i)) ∧ v6 = .int .i64 i ∧ wr = w)
  case atStart => exact ⟨0, by simp, rfl, rfl, rfl⟩
  case round =>
    obtain ⟨i, hig, rfl, rfl, rfl⟩ := hrel
    cases gk with
    | zero =>
      have hil : i = s.size := by omega
      subst hil
      go_wp2_with fail
      go_ret
      refine ⟨?_, rfl⟩
      rw [List.take_of_length_le (by rw [size_list]; exact Nat.le_refl _)]
      rfl
    | succ k =>
      have hil : i < s.size := by omega
      have hl : i < s.data.toList.length := by rw [size_list]; exact hil
      have hcs := cntB_snoc (s.data.toList.take i) s.data.toList[i]
      have htk : s.data.toList.take (i + 1) = s.data.toList.take i ++ [s.data.toList[i]] := by rw [List.take_add_one, List.getElem?_eq_getElem hl]; rfl
      rw [← htk] at hcs
      have hle := cntB_le (s.data.toList.take i)
      rw [List.length_take] at hle
      have hle2 : cntB (s.data.toList.take i) ≤ 1000 := by omega
      have hx := ext_one s i hl
      rw [← toL] at hx
      have HCS := Lib.hid hcs
      clear hcs htk hle
      by_cases hb : s.data.toList[i] = 125
      · rw [hb] at hx
        have hxb : ((s.extract i (i + 1)).toList == ([125] : List UInt8)) = true := by rw [hx]; rfl
        clear hx
        go_wp2_with fail
        go_roundg k
        case rel =>
          refine ⟨i + 1, by omega, ?_, by simp, rfl⟩
          rw [HCS.out, if_pos hb]
          simp
        case measure => omega
      · have hxb : ((s.extract i (i + 1)).toList == ([125] : List UInt8)) = false := by rw [hx]; simpa using hb
        clear hx
        go_wp2_with fail
        go_roundg k
        case rel =>
          refine ⟨i + 1, by omega, ?_, by simp, rfl⟩
          rw [HCS.out, if_neg hb]
          simp
        case measure => omega

theorem ordCmp (a b : ByteArray) (w : World) : Calls Tryd.prog 61 #[.string a, .string b] w fun e w' => e = .returned (.int .i64 (cmpB b.toList a.toList)) ∧ w = w' := by
  have HC := Lib.hid (cmpStr b a w)
  go_enter Tryd.func61, Tryd.ntmps61
  go_wp2_with fail
  refine HC.out.mono ?_
  rintro e w' ⟨rfl, rfl⟩
  go_wp2_with fail
  go_ret
  exact ⟨rfl, rfl⟩
def cfOrd (x y : Bs) : Int := cmpB y x
theorem ord_swo : Go.Sort.SWO (ltOf cfOrd) where
  irrefl x := by
    simp only [ltOf, cfOrd, decide_eq_false_iff_not, cmpB_lt]
    exact List.lt_irrefl _
  trans x y z h1 h2 := by
    simp only [ltOf, cfOrd, decide_eq_true_eq, cmpB_lt] at *
    exact List.lt_trans h2 h1
  ntrans x y z h1 h2 := by
    simp only [ltOf, cfOrd, decide_eq_false_iff_not, cmpB_lt] at *
    rw [List.not_lt] at *
    exact List.le_trans h1 h2
open Go.Proofs (encStr) in
set_option maxRecDepth 100000 in
theorem sortStrs (g cap B : Nat) (ss : List Bs) (w : World) (h : w.ownsRow B 9 1 (.slice (some ⟨g, 0, none⟩) ss.length cap) ss.length (strs ss)) (h12 : ss.length ≤ 12) :
    Calls Tryd.prog 60 #[.slice (some ⟨g, 0, none⟩) ss.length cap, .func (.func 61) #[] #[]] w fun e w' =>
      e = .returned (.tuple #[]) ∧ ∃ ts : List Bs, ts.Perm ss ∧ w'.ownsRow B 9 1 (.slice (some ⟨g, 0, none⟩) ss.length cap) ss.length (strs ts) ∧ w.grownBy w' (some g) := by
  have eg : ∀ args w, (callFunc 61 args).run Tryd.prog w = .ok (.enter 61 args) w := enters_of Tryd.func61 (by kernel_rfl) rfl
  rcases h.2 with ⟨hnil, _⟩ | ⟨g', cap', cur, he, hbase, hb, h1, h2, h3, h4⟩
  · simp at hnil
  simp only [Value.slice.injEq, Option.some.injEq, Addr.mk.injEq, and_true, true_and] at he
  obtain ⟨rfl, rfl⟩ := he
  have hcmp : Go.Proofs.CmpReads Tryd.prog 61 #[] encStr cfOrd g 0 ss.toArray.size w := fun m os dk _ x y => by
    have := ordCmp (mkS x) (mkS y) (Go.Proofs.sortWorld encStr w g 0 m dk os)
    simp only [mkS_toL] at this
    refine this.mono fun e w' hh => ?_
    obtain ⟨he, hw⟩ := hh
    subst hw
    exact ⟨he, 0, rfl⟩
  have hlen : ∀ (n : Nat) (W : World), n ≤ 12 → Calls Tryd.prog 70 #[.int .u64 n] W fun e w' => (∃ l : Int, e = .returned (.int .i64 l)) ∧ w' = W := fun n W hn =>
    (Tryd.bits_Len (n : Int) W (by omega) (by omega)).mono fun _ _ ⟨he, hw⟩ => ⟨⟨_, he⟩, hw⟩
  have hs := Go.Proofs.Any.slices_SortFunc_small_sorted Tryd.sortStr encStr (fun _ => rfl) cfOrd ord_swo 61 #[] g 0 cap ss.toArray w eg hcmp (holds_of_block hb (by rw [Nat.mul_one] at h4; exact h4)) (by simpa using h12) hlen
  have hss : ss.toArray.size = ss.length := by simp
  rw [hss] at hs
  refine hs.mono fun e w' hh => ?_
  obtain ⟨he, d', n, hp, _, hw⟩ := hh
  refine ⟨he, d'.toList, ?_, ?_⟩
  · have e1 : ∀ x : Array Bs, x.size = ss.length → x.extract 0 ss.length = x := fun x hx => by rw [← hx]; simp
    obtain ⟨p1, p2, p3⟩ := hp
    have p3' := p3
    rw [e1 _ (p1.trans hss), e1 _ hss] at p3'
    simpa using p3'
  · obtain ⟨p1, p2, p3⟩ := hp
    have hl : d'.toList.length = ss.length := by simpa using p1
    rw [← Go.Proofs.sortWorld_none] at hw
    subst hw
    have o1 := ownsRow_sorted (n := n) (os := #[]) (ts := d'.toList) hl hbase hb h1 h2 h3
    have g1 := grownBy_sorted (w := w) (g := g) (n := n) (os := #[]) d'
    exact ⟨o1, g1⟩
end Go.Proofs.YtpdnjgbcnnjdiaaDoor
