/- A slice of pieces cut at its end. -/
import Derived.Test.YtpdnjgbcnnjdiaaDoorRouted
namespace Go.Proofs.YtpdnjgbcnnjdiaaDoor
open Go Go.RowKit Go.Proofs.YtpdnjgbcnnjdiaaDoorW.PrintWords
theorem slice_take (A : Option Addr) (n c i : Nat) (hic : i ≤ c) (W : World) : (Instr.slice 30 (.slice A n c) none (some (.int .i64 (i : Int))) none).run Tryd.prog W = .ok (.slice A i c) W := by
  have ht := Tryd.underlying30
  have hel : Tryd.prog.elem 30 = 33 := by simp [Program.elem, ht]
  have hu : Tryd.prog.underlying 30 = some (.slice (Tryd.prog.elem 30)) := by rw [hel]; exact ht
  have ha : (A.map fun x => x.add 0) = A := by cases A <;> simp [Addr.add]
  have hinf : (Tryd.prog.info? 33).isSome = true := by kernel_rfl
  obtain ⟨i3, hi3⟩ := Option.isSome_iff_exists.1 hinf
  rw [run_slice_h W 30 A n c hu .i64 (i : Int) (by omega) (by omega), hel]
  simp [sizeOf, typeInfo, hi3, sliced, Result.andThen, ha]
end Go.Proofs.YtpdnjgbcnnjdiaaDoor
