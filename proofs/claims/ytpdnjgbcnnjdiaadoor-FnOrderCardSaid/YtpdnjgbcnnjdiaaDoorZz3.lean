/- zzFits3: that a list of texts is not too long. -/
import Derived.Test.YtpdnjgbcnnjdiaaDoorRouted
import Derived.Test.YtpdnjgbcnnjdiaaDoorPFnMatchx1
namespace Go.Proofs.YtpdnjgbcnnjdiaaDoor
open Go Go.RowKit Go.Proofs.YtpdnjgbcnnjdiaaDoorW.PrintWords Go.Proofs.YtpdnjgbcnnjdiaaDoor.PFnMatch
set_option linter.unusedVariables false
set_option linter.unusedSimpArgs false
theorem zz3_l (l : List ByteArray) (hl : l.length ≤ 2147483647) : ∀ (n k i : Nat), l.length - i < n → n ≤ k → i ≤ l.length → ∃ r, laws_zzFits3.l0 k l (l.length : Int) (i : Int) = some r ∧ (r = true → ∀ x ∈ l.drop i, x.size ≤ 2147483647) := by
  intro n
  induction n with
  | zero => intro k i h; omega
  | succ n ih =>
    intro k i hn hk hi
    obtain ⟨k, rfl⟩ : ∃ m, k = m + 1 := ⟨k - 1, by omega⟩
    unfold laws_zzFits3.l0
    by_cases h : i < l.length
    · rw [if_pos (by omega), if_pos (by omega), if_pos (by omega), show rdOf ByteArray.empty l (i : Int) = l[i] from by simp [rdOf, List.getD, h], show wrap64 ((i : Int) + 1) = ((i + 1 : Nat) : Int) from by unfold wrap64; omega]
      split
      · exact ⟨false, rfl, fun e => by cases e⟩
      · rename_i hsz
        obtain ⟨r, h1, h2⟩ := ih k (i + 1) (by omega) (by omega) (by omega)
        refine ⟨r, h1, fun e x hx => ?_⟩
        rw [List.drop_eq_getElem_cons h] at hx
        rcases List.mem_cons.1 hx with rfl | hx
        · omega
        · exact h2 e x hx
    · rw [if_neg (by omega)]
      refine ⟨true, rfl, fun _ x hx => ?_⟩
      rw [List.drop_of_length_le (by omega)] at hx
      cases hx
theorem zz3_f (l : List ByteArray) : ∃ k r, laws_zzFits3.f k l = some r ∧ (r = true → l.length ≤ 2147483647 ∧ ∀ x ∈ l, x.size ≤ 2147483647) := by
  unfold laws_zzFits3.f
  by_cases h : (l.length : Int) > 2147483647
  · exact ⟨0, false, by rw [if_pos h], fun e => by cases e⟩
  · obtain ⟨r, h1, h2⟩ := zz3_l l (by omega) (l.length + 1) (l.length + 1) 0 (by omega) (by omega) (by omega)
    exact ⟨l.length + 1, r, by rw [if_neg h]; exact h1, fun e => ⟨by omega, by simpa using h2 e⟩⟩
end Go.Proofs.YtpdnjgbcnnjdiaaDoor
