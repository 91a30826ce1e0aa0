/- The package's own search for a slash or a brace. -/
import Derived.Test.YtpdnjgbcnnjdiaaGreatDoorRemain
import Derived.Lib.OthersKept
import Derived.WalkSmall
import Derived.Laws.RangeString
namespace Go.Proofs.YtpdnjgbcnnjdiaaGreatDoor
open Go Go.RowKit Go.Lib
set_option linter.unusedVariables false
set_option linter.unusedSimpArgs false

def sb : ByteArray := ⟨#[47, 123]⟩

set_option maxHeartbeats 4000000 in
set_option maxRecDepth 100000 in
theorem indexAny (s : ByteArray) (j : Nat) (hs : s.size ≤ 100000) (hj : ∀ i, i < j → ∀ h : i < s.size, (s[i]'h).toNat < 128 ∧ (s[i]'h).toNat ≠ 47 ∧ (s[i]'h).toNat ≠ 123) (r : Int) (he : (j = s.size ∧ r = -1) ∨ (r = (j : Int) ∧ ∃ h : j < s.size, (s[j]'h).toNat = 47 ∨ (s[j]'h).toNat = 123)) (w : World) :
    Calls Tryz.prog 48 #[.string s, .string sb] w fun e w' => e = .returned (.int .i64 r) ∧ Below w.heap.size w w' := by
  have HJ := Lib.hid hj
  have HE := Lib.hid he
  have hjs : j ≤ s.size := by rcases he with ⟨h, _⟩ | ⟨_, h, _⟩ <;> omega
  clear hj he
  go_enter Tryz.func48, Tryz.ntmps48
  go_wp2
  go_loopw [4] (fun r0 wr => r0 = .int .i64 0 ∧ ∃ i, i ≤ j ∧ Hid (wr.heap[w.heap.size]? = some (.stringIter s i)) ∧ Hid (Below w.heap.size w wr)) (fun _ wr => s.size + 1 - wr.iterPos w.heap.size)
  case atStart => exact ⟨rfl, 0, Nat.zero_le _, World.iter_heap _ _ _, (Below.refl _ _).alloc (Nat.le_refl _) _⟩
  case round =>
    obtain ⟨rfl, i, hij, HI, HB⟩ := hrel
    by_cases hlt : i < s.size
    · obtain ⟨ch, hch⟩ : ∃ ch, (s[i]'hlt).toNat = ch := ⟨_, rfl⟩
      have hasc : ch < 128 := by
        by_cases hij2 : i < j
        · have := (HJ.out i hij2 hlt).1; omega
        · have hij3 : i = j := by omega
          subst hij3
          rcases HE.out with ⟨h, _⟩ | ⟨_, h, h1⟩
          · omega
          · omega
      have hn := fun ty => run_next_ascii_at (P := Tryz.prog) wr w.heap.size s i ty HI.out hlt (by rw [hch]; exact hasc)
      rw [hch] at hn
      have hp := iterPos_of HI.out
      have HP := Lib.hid hp
      have HCH := Lib.hid hch
      clear hp hch
      go_wp2_with fail
      have hh := iterAt_heap wr w.heap.size s i (i + 1) HI.out
      have hb := below_iterAt HB.out (Nat.le_refl _) s (i + 1)
      clear hn
      generalize wr.iterAt w.heap.size s (i + 1) = W1 at hh hb ⊢
      have n0 : ∀ ty, (Instr.next (.pointer (some ⟨W1.heap.size, 0, none⟩)) true ty).run Tryz.prog (W1.iter sb 0) = .ok (.tuple #[.bool true, .int .i64 0, .int .i32 47]) (W1.iter sb 1) := fun ty => run_next_ascii W1 sb 0 ty (by decide) (by decide)
      have n1 : ∀ ty, (Instr.next (.pointer (some ⟨W1.heap.size, 0, none⟩)) true ty).run Tryz.prog (W1.iter sb 1) = .ok (.tuple #[.bool true, .int .i64 1, .int .i32 123]) (W1.iter sb 2) := fun ty => run_next_ascii W1 sb 1 ty (by decide) (by decide)
      have n2 : ∀ ty, (Instr.next (.pointer (some ⟨W1.heap.size, 0, none⟩)) true ty).run Tryz.prog (W1.iter sb 2) = .ok (.tuple #[.bool false]) (W1.iter sb 2) := fun ty => run_next_end W1 sb 2 ty (by decide)
      have HH := Lib.hid hh
      have HB2 := Lib.hid hb
      have hsz := hb.size
      have hlt2 := (Array.getElem?_eq_some_iff.1 hh).1
      clear hh hb
      by_cases hq : ch = 47
      · subst hq
        have hfin : r = (i : Int) := by
          by_cases hij2 : i < j
          · have := (HJ.out i hij2 hlt).2.1; exact absurd HCH.out this
          · have hij3 : i = j := by omega
            subst hij3
            rcases HE.out with ⟨h, _⟩ | ⟨h, _⟩
            · omega
            · exact h
        subst hfin
        refine wp_loop_rounds 1 ?_
        rw [rounds_succ]
        go_wp2
        go_ret
        exact ⟨rfl, HB2.out.alloc HB2.out.size _⟩
      · by_cases hq2 : ch = 123
        · subst hq2
          have hfin : r = (i : Int) := by
            by_cases hij2 : i < j
            · have := (HJ.out i hij2 hlt).2.2; exact absurd HCH.out this
            · have hij3 : i = j := by omega
              subst hij3
              rcases HE.out with ⟨h, _⟩ | ⟨h, _⟩
              · omega
              · exact h
          subst hfin
          go_loopw [4, 8] (fun r1 _ wr2 => r1 = .int .i64 0 ∧ ∃ m, m ≤ 1 ∧ wr2 = W1.iter sb m) (fun _ _ wr2 => 2 - wr2.iterPos W1.heap.size)
          case atStart => exact ⟨rfl, 0, by omega, rfl⟩
          case round =>
            obtain ⟨rfl, m, hm, rfl⟩ := hrel
            have hmp := iterPos_of (World.iter_heap W1 sb m)
            have HMP := Lib.hid hmp
            clear hmp
            by_cases hm0 : m = 0
            · subst hm0
              go_wp2
              go_roundw
              case rel => exact ⟨rfl, 1, by omega, rfl⟩
              case measure => rw [HMP.out, iterPos_of (World.iter_heap W1 sb 1)]; omega
            · have hm1 : m = 1 := by omega
              subst hm1
              go_wp2
              go_ret
              exact ⟨rfl, HB2.out.alloc HB2.out.size _⟩
        · have hb1 : ((ch : Int) == 47) = false := by simp; omega
          have hb2 : ((ch : Int) == 123) = false := by simp; omega
          have hij2 : i < j := by
            rcases Nat.lt_or_ge i j with h | h
            · exact h
            · have hij3 : i = j := by omega
              subst hij3
              rcases HE.out with ⟨h, _⟩ | ⟨_, _, h⟩
              · omega
              · rw [HCH.out] at h; omega
          clear hq hq2
          go_loopw [4, 8] (fun r1 _ wr2 => r1 = .int .i64 0 ∧ ∃ m, m ≤ 2 ∧ wr2 = W1.iter sb m) (fun _ _ wr2 => 2 - wr2.iterPos W1.heap.size)
          case atStart => exact ⟨rfl, 0, by omega, rfl⟩
          case round =>
            obtain ⟨rfl, m, hm, rfl⟩ := hrel
            have hmp := iterPos_of (World.iter_heap W1 sb m)
            have HMP := Lib.hid hmp
            clear hmp
            by_cases hm0 : m = 0
            · subst hm0
              go_wp2
              go_roundw
              case rel => exact ⟨rfl, 1, by omega, rfl⟩
              case measure => rw [HMP.out, iterPos_of (World.iter_heap W1 sb 1)]; omega
            · by_cases hm1 : m = 1
              · subst hm1
                go_wp2
                go_roundw
                case rel => exact ⟨rfl, 2, by omega, rfl⟩
                case measure => rw [HMP.out, iterPos_of (World.iter_heap W1 sb 2)]; omega
              · have hm2 : m = 2 := by omega
                subst hm2
                go_wp2
                have hh2 : (W1.iter sb 2).heap[w.heap.size]? = some (.stringIter s (i + 1)) := by rw [← HH.out]; exact heap_alloc_old _ _ hlt2
                go_roundw
                case rel => exact ⟨rfl, i + 1, by omega, hh2, HB2.out.alloc HB2.out.size _⟩
                case measure => rw [HP.out, iterPos_of hh2]; omega
    · have hij3 : i = s.size := by omega
      have hfin : r = -1 := by
        rcases HE.out with ⟨_, h⟩ | ⟨_, h, _⟩
        · exact h
        · omega
      subst hfin
      have hn := fun ty => run_next_end_at (P := Tryz.prog) wr w.heap.size s i ty HI.out hlt
      go_wp2
      go_ret
      exact ⟨rfl, HB.out⟩
end Go.Proofs.YtpdnjgbcnnjdiaaGreatDoor
