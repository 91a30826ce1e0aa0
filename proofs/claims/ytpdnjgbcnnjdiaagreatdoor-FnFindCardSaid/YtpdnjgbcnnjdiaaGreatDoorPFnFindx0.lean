-- PRINTED BY print.sh 35421559b90ae4d0a3588c463048766b98c2df88dd9212a6774a882060cdf62d: not written by this session
import Derived.Test.YtpdnjgbcnnjdiaaGreatDoorProg
import Derived.Below
import Derived.Deep.Draws
import Derived.Deep.AppendLies
import Derived.Maps.AppendAt
import Derived.OwnWalk
import Derived.Laws.BytesArg
import Derived.Laws.MakeOwn
import Derived.Laws.OwnMore
import Derived.Deep.OwnRows
import Derived.Tactics
import Derived.Lib.ConvBytes
import Derived.Laws.Slices
import Derived.WalkKit
import Derived.KernelRfl
import Derived.RowKit3
import Derived.Deep.LoopGhost
import Derived.Deep.QuietTactic
import Derived.BigQuiet
import Derived.WideLaws
import Derived.Deep.DeepCutAuto
import Derived.Deep.CutBlock
import Derived.Deep.RegionHeld3
import Derived.Laws.Rows
import Derived.Lib.AppendStr
import Derived.ArgAppend
import Derived.Laws.IdiomCopy
import Derived.OrdersHeld
import Derived.Laws.BitsLemmas
import Derived.RowKit
import Derived.Test.YtpdnjgbcnnjdiaaGreatDoorWWords
import Derived.Test.YtpdnjgbcnnjdiaaGreatDoorWLast
import Derived.Test.YtpdnjgbcnnjdiaaGreatDoorWTab
import Derived.Test.YtpdnjgbcnnjdiaaGreatDoorWFour
import Derived.Test.YtpdnjgbcnnjdiaaGreatDoorWQPut
import Derived.Test.YtpdnjgbcnnjdiaaGreatDoorWApart
import Derived.Test.YtpdnjgbcnnjdiaaGreatDoorWArr
import Derived.Test.YtpdnjgbcnnjdiaaGreatDoorWZeros
import Derived.Test.YtpdnjgbcnnjdiaaGreatDoorWFoot
import Derived.Test.YtpdnjgbcnnjdiaaGreatDoorWKept
import Derived.Test.YtpdnjgbcnnjdiaaGreatDoorWShare
import Derived.Test.YtpdnjgbcnnjdiaaGreatDoorWN
import Derived.Test.YtpdnjgbcnnjdiaaGreatDoorWFootNe
import Derived.Test.YtpdnjgbcnnjdiaaGreatDoorWAt
import Derived.Test.YtpdnjgbcnnjdiaaGreatDoorWEqStruct
import Derived.Test.YtpdnjgbcnnjdiaaGreatDoorWRepsOne
import Derived.Test.YtpdnjgbcnnjdiaaGreatDoorWInv
import Derived.Test.YtpdnjgbcnnjdiaaGreatDoorWInvWords
import Derived.Test.YtpdnjgbcnnjdiaaGreatDoorWGuard
import Derived.Test.YtpdnjgbcnnjdiaaGreatDoorWNEv
import Derived.Test.YtpdnjgbcnnjdiaaGreatDoorWMore
namespace Go.Proofs.YtpdnjgbcnnjdiaaGreatDoor.PFnFind
open Go.RowKit Go.Proofs.YtpdnjgbcnnjdiaaGreatDoorW.PrintWords Go.Proofs.YtpdnjgbcnnjdiaaGreatDoorW.PrintLast Go.Proofs.YtpdnjgbcnnjdiaaGreatDoorW.PrintMore
attribute [local go_sem] max2_int min2_int max_two min_two max_three min_three max_four min_four   -- for this text's walks alone
set_option linter.unusedVariables false
set_option linter.unusedSimpArgs false



def errW : Option Int → Value
  | none => .nilIface
  | some c => .iface 0 (.int .i64 c)
theorem errW_none : errW none = .nilIface := rfl
theorem errW_some (c : Int) : errW (some c) = .iface 0 (.int .i64 c) := rfl

theorem info5 : (Tryz.prog.info? 5).map (fun i => (i.zero, i.size, i.bytes)) = some (some (.int .u8 0), 1, 1) := by kernel_rfl
theorem info9 : (Tryz.prog.info? 9).map (fun i => (i.zero, i.size, i.bytes)) = some (some (.string ⟨#[]⟩), 1, 16) := by kernel_rfl
theorem info45 : (Tryz.prog.info? 45).map (fun i => (i.zero, i.size, i.bytes)) = some (some (.agg #[(.string ⟨#[]⟩), (.int .i64 0)]), 2, 24) := by kernel_rfl
-- the values' own types
/-! #### struct type 45 -/
structure S45 where
  f0 : ByteArray
  f1 : Int
def z45 : S45 := ⟨(⟨#[]⟩ : ByteArray), (0 : Int)⟩
def k45 : Kd S45 := Kd.iso (Kd.pair Kd.string (Kd.int .i64)) (fun x : S45 => (x.f0, x.f1))
theorem k45_open {w : World} {x : S45} {cs : List Value} (h : k45.K w x cs) : cs = [.string x.f0, .int .i64 x.f1] := by
  obtain ⟨_, _, rfl, rfl, rfl⟩ := h
  exact rfl
theorem k45_openM {w : World} {base : Nat} {ok : Nat → Prop} {x : S45} {cs : List Value} (h : k45.M w base ok x cs) : cs = [.string x.f0, .int .i64 x.f1] := by
  obtain ⟨_, _, rfl, rfl, rfl⟩ := h
  exact rfl
theorem k45_mk (w : World) (x : S45)  : k45.K w x [.string x.f0, .int .i64 x.f1] := ⟨[.string x.f0], [.int .i64 x.f1], rfl, rfl, rfl⟩
theorem k45_mkM (w : World) (base : Nat) (ok : Nat → Prop) (x : S45)  : k45.M w base ok x [.string x.f0, .int .i64 x.f1] := ⟨[.string x.f0], [.int .i64 x.f1], rfl, rfl, rfl⟩
def rd_T45 (xs : List S45) (i : Int) : S45 := xs.getD i.toNat z45
theorem at_T45 {w : World} {A : Option Addr} {n : Nat} {xs : List S45} (h : Kd.C k45 w A n xs) (i : Int) (h0 : 0 ≤ i) (h1 : i < n) : ∃ ad , A = some ad ∧ w.cell? (ad.add (i.toNat * 2)) = some (.string (rd_T45 xs i).f0) ∧ w.cell? ⟨(ad.add (i.toNat * 2)).block, (ad.add (i.toNat * 2)).off + 1, none⟩ = some (.int .i64 (rd_T45 xs i).f1) := by
  obtain ⟨ad, c, e, _, hK, hc0⟩ := Kd.C_get h z45 i h0 h1
  have hc : ∀ j u, c[j]? = some u → w.cell? (ad.add (i.toNat * 2 + j)) = some u := hc0
  obtain rfl := k45_open hK
  exact ⟨ad, e, hc 0 _ rfl, by rw [← add_field _ _ 1 (by omega)]; exact hc 1 _ rfl⟩

/-! #### struct type 158 -/
structure S158 where
  f0 : Int
  f1 : Int
  f2 : Int
def z158 : S158 := ⟨(0 : Int), (0 : Int), (0 : Int)⟩
def k158 : Kd S158 := Kd.iso (Kd.pair (Kd.int .u16) (Kd.pair (Kd.int .u16) (Kd.int .u16))) (fun x : S158 => (x.f0, x.f1, x.f2))
theorem k158_open {w : World} {x : S158} {cs : List Value} (h : k158.K w x cs) : cs = [.int .u16 x.f0, .int .u16 x.f1, .int .u16 x.f2] := by
  obtain ⟨_, _, rfl, rfl, ⟨_, _, rfl, rfl, rfl⟩⟩ := h
  exact rfl
theorem k158_openM {w : World} {base : Nat} {ok : Nat → Prop} {x : S158} {cs : List Value} (h : k158.M w base ok x cs) : cs = [.int .u16 x.f0, .int .u16 x.f1, .int .u16 x.f2] := by
  obtain ⟨_, _, rfl, rfl, ⟨_, _, rfl, rfl, rfl⟩⟩ := h
  exact rfl
theorem k158_mk (w : World) (x : S158)  : k158.K w x [.int .u16 x.f0, .int .u16 x.f1, .int .u16 x.f2] := ⟨[.int .u16 x.f0], [.int .u16 x.f1, .int .u16 x.f2], rfl, rfl, ⟨[.int .u16 x.f1], [.int .u16 x.f2], rfl, rfl, rfl⟩⟩
theorem k158_mkM (w : World) (base : Nat) (ok : Nat → Prop) (x : S158)  : k158.M w base ok x [.int .u16 x.f0, .int .u16 x.f1, .int .u16 x.f2] := ⟨[.int .u16 x.f0], [.int .u16 x.f1, .int .u16 x.f2], rfl, rfl, ⟨[.int .u16 x.f1], [.int .u16 x.f2], rfl, rfl, rfl⟩⟩
def rd_T158 (xs : List S158) (i : Int) : S158 := xs.getD i.toNat z158
theorem at_T158 {w : World} {A : Option Addr} {n : Nat} {xs : List S158} (h : Kd.C k158 w A n xs) (i : Int) (h0 : 0 ≤ i) (h1 : i < n) : ∃ ad , A = some ad ∧ w.cell? (ad.add (i.toNat * 3)) = some (.int .u16 (rd_T158 xs i).f0) ∧ w.cell? ⟨(ad.add (i.toNat * 3)).block, (ad.add (i.toNat * 3)).off + 1, none⟩ = some (.int .u16 (rd_T158 xs i).f1) ∧ w.cell? ⟨(ad.add (i.toNat * 3)).block, (ad.add (i.toNat * 3)).off + 2, none⟩ = some (.int .u16 (rd_T158 xs i).f2) := by
  obtain ⟨ad, c, e, _, hK, hc0⟩ := Kd.C_get h z158 i h0 h1
  have hc : ∀ j u, c[j]? = some u → w.cell? (ad.add (i.toNat * 3 + j)) = some u := hc0
  obtain rfl := k158_open hK
  exact ⟨ad, e, hc 0 _ rfl, by rw [← add_field _ _ 1 (by omega)]; exact hc 1 _ rfl, by rw [← add_field _ _ 2 (by omega)]; exact hc 2 _ rfl⟩

/-! #### struct type 161 -/
structure S161 where
  f0 : Int
  f1 : Int
  f2 : Int
def z161 : S161 := ⟨(0 : Int), (0 : Int), (0 : Int)⟩
def k161 : Kd S161 := Kd.iso (Kd.pair (Kd.int .u32) (Kd.pair (Kd.int .u32) (Kd.int .u32))) (fun x : S161 => (x.f0, x.f1, x.f2))
theorem k161_open {w : World} {x : S161} {cs : List Value} (h : k161.K w x cs) : cs = [.int .u32 x.f0, .int .u32 x.f1, .int .u32 x.f2] := by
  obtain ⟨_, _, rfl, rfl, ⟨_, _, rfl, rfl, rfl⟩⟩ := h
  exact rfl
theorem k161_openM {w : World} {base : Nat} {ok : Nat → Prop} {x : S161} {cs : List Value} (h : k161.M w base ok x cs) : cs = [.int .u32 x.f0, .int .u32 x.f1, .int .u32 x.f2] := by
  obtain ⟨_, _, rfl, rfl, ⟨_, _, rfl, rfl, rfl⟩⟩ := h
  exact rfl
theorem k161_mk (w : World) (x : S161)  : k161.K w x [.int .u32 x.f0, .int .u32 x.f1, .int .u32 x.f2] := ⟨[.int .u32 x.f0], [.int .u32 x.f1, .int .u32 x.f2], rfl, rfl, ⟨[.int .u32 x.f1], [.int .u32 x.f2], rfl, rfl, rfl⟩⟩
theorem k161_mkM (w : World) (base : Nat) (ok : Nat → Prop) (x : S161)  : k161.M w base ok x [.int .u32 x.f0, .int .u32 x.f1, .int .u32 x.f2] := ⟨[.int .u32 x.f0], [.int .u32 x.f1, .int .u32 x.f2], rfl, rfl, ⟨[.int .u32 x.f1], [.int .u32 x.f2], rfl, rfl, rfl⟩⟩
def rd_T161 (xs : List S161) (i : Int) : S161 := xs.getD i.toNat z161
theorem at_T161 {w : World} {A : Option Addr} {n : Nat} {xs : List S161} (h : Kd.C k161 w A n xs) (i : Int) (h0 : 0 ≤ i) (h1 : i < n) : ∃ ad , A = some ad ∧ w.cell? (ad.add (i.toNat * 3)) = some (.int .u32 (rd_T161 xs i).f0) ∧ w.cell? ⟨(ad.add (i.toNat * 3)).block, (ad.add (i.toNat * 3)).off + 1, none⟩ = some (.int .u32 (rd_T161 xs i).f1) ∧ w.cell? ⟨(ad.add (i.toNat * 3)).block, (ad.add (i.toNat * 3)).off + 2, none⟩ = some (.int .u32 (rd_T161 xs i).f2) := by
  obtain ⟨ad, c, e, _, hK, hc0⟩ := Kd.C_get h z161 i h0 h1
  have hc : ∀ j u, c[j]? = some u → w.cell? (ad.add (i.toNat * 3 + j)) = some u := hc0
  obtain rfl := k161_open hK
  exact ⟨ad, e, hc 0 _ rfl, by rw [← add_field _ _ 1 (by omega)]; exact hc 1 _ rfl, by rw [← add_field _ _ 2 (by omega)]; exact hc 2 _ rfl⟩

end Go.Proofs.YtpdnjgbcnnjdiaaGreatDoor.PFnFind
