/- (*Node).Add, (*Node).Match. -/
import Derived.Test.YtpdnjgbcnnjdiaaGreatDoorCreate
import Derived.Defers
import Derived.Recover
namespace Go.Proofs.YtpdnjgbcnnjdiaaGreatDoor
open Go Go.RowKit
set_option linter.unusedVariables false
set_option linter.unusedSimpArgs false

theorem catchIdle (p4 p5 p6 p7 : Value) (w : World) :
    CallsD Tryz.prog 26 #[p4, p5, p6, p7] .returning w fun e u' w' => e = .returned (.tuple #[]) ∧ u' = .returning ∧ w' = w := by
  refine callsD_of_wpS Tryz.func26 rfl fun c₀ cs hu => ?_
  apply wpS_seq
  apply wpS_region
  simp [wpOpsS, go_sem, recoverD, hu, Tryz.ntmps26, Exit.thenS]
  refine wpS_cond (t := false) (by simp [Act.eval, Array.replicate]) ?_
  simp only [Bool.false_eq_true, if_false]
  refine wpS_of_wp (wp_skip ?_)
  cases c₀
  simp_all [bodyPostS, results, Tryz.results26]

/-- What a call of Add leaves. -/
def APost (B : Nat) (S : Path → Prop) (V : Path → Option Bs) (M : Mem) (w : World) (ts : List Tok) (s : Bs) (e : Ending) (w' : World) : Prop :=
  ∃ M' : Mem, e = .returned .nilIface ∧ Rep w' B (fun q => S q ∨ q <+: ts) (upd V ts (some s)) M' ∧ Below B w w' ∧ M'.nb [] = M.nb [] ∧ (∀ q, (M'.kids q).length ≤ (M.kids q).length + 1) ∧ (∀ q, Srt (M'.kids q))

set_option maxHeartbeats 1000000 in
theorem addPat (B : Nat) (S : Path → Prop) (V : Path → Option Bs) (M : Mem) (w : World) (hR : Rep w B S V M) (hB : B ≤ w.heap.size) (s : ByteArray) (hs : s.size ≤ 1000) (ts : List Tok) (ns : List Bs) (hT : Toks (stripAll s.data.toList) ts ns) (hTab : Hid (∀ W, Below B w W → Lib.TabIs Tryz.prog W "strings.asciiSpace" .u8 Lib.asciiSpaceTab)) (h11 : Hid (∀ q, (M.kids q).length ≤ 11)) (hV : Hid (∀ q, ¬ S q → V q = none)) (hSrt : Hid (∀ q, Srt (M.kids q))) :
    Calls Tryz.prog 27 #[.pointer (some ⟨M.nb [], 0, none⟩), .string s, .iface 9 (.string s), .pointer none] w (APost B S V M w ts s.data.toList) := by
  suffices hsuff : ∀ Q : Ending → World → Prop, Hid (∀ e w', APost B S V M w ts s.data.toList e w' → Q e w') → Calls Tryz.prog 27 #[.pointer (some ⟨M.nb [], 0, none⟩), .string s, .iface 9 (.string s), .pointer none] w Q from hsuff _ (fun _ _ h => h)
  intro Q HQ
  have HC := Lib.hid (create B S V M w hR hB s hs ts ns hT hTab h11 hV hSrt)
  clear hR hT hTab h11 hV
  go_enter Tryz.func27, Tryz.ntmps27
  go_wp2_with fail
  refine HC.out.mono ?_
  rintro e w1 ⟨M', rfl, hR1, hb1, hn1, hk1, hs1, _⟩
  have hSp : S ts ∨ ts <+: ts := .inr List.prefix_rfl
  obtain ⟨c0, c1, c2⟩ := hR1.cell hSp
  have f1 := hR1.frozen hSp 1
  have hfin : APost B S V M w ts s.data.toList (.returned .nilIface) (w1.setCell ⟨M'.nb ts, 1, none⟩ (.iface 9 (.string s))) := by
    refine ⟨M', rfl, hR1.store hSp 1 _ rfl rfl rfl rfl (fun q hq => ⟨rfl, upd_other _ _ _ _ hq⟩) ?_, hb1.setCell (p := ⟨M'.nb ts, 1, none⟩) (hR1.base ts hSp) _, hn1, hk1, hs1⟩
    simp [upd_same, valV, mkS_self]
  have HFIN := Lib.hid (HQ.out _ _ hfin)
  clear hfin hR1 hb1 hn1 hk1 hSp
  go_wp2_with fail
  exact HFIN.out

/-- What a call of Match leaves. -/
def MPost (M : Mem) (w : World) (res : Option (Path × List Bs)) (e : Ending) (w' : World) : Prop :=
  Below w.heap.size w w' ∧ match res with
  | none => e = .returned (.tuple #[.pointer none, .slice none 0 0])
  | some (q, ys) => ∃ v', e = .returned (.tuple #[.pointer (some ⟨M.nb q, 0, none⟩), v']) ∧ w'.ownsRow w.heap.size 9 1 v' ys.length (strs ys)

set_option maxHeartbeats 1000000 in
theorem matchM (B : Nat) (S : Path → Prop) (V : Path → Option Bs) (M : Mem) (w : World) (hR : Rep w B S V M) (s : ByteArray) (hs : s.size ≤ 1000) (n : Nat) (hn : n ≤ 1000) (hd : ∀ q, S q → q.length < n) (HKL : Hid (∀ p (t : Tok), t ∈ M.kids p → t.2.length ≤ 1000)) :
    Calls Tryz.prog 28 #[.pointer (some ⟨M.nb [], 0, none⟩), .string s] w (MPost M w (look M.kids V n [] (stripAll s.data.toList) [])) := by
  suffices hsuff : ∀ Q : Ending → World → Prop, Hid (∀ e w', MPost M w (look M.kids V n [] (stripAll s.data.toList) []) e w' → Q e w') → Calls Tryz.prog 28 #[.pointer (some ⟨M.nb [], 0, none⟩), .string s] w Q from hsuff _ (fun _ _ h => h)
  intro Q HQ
  have HRM := Lib.hid (fun (B1 : Nat) (hB1 : ∀ b, (M.own b).isSome → b < B1) => remain B B1 S V M hB1 HKL n [] hR.root (fun q hq => hd q (by simpa using hq)))
  have HR := Lib.hid hR
  clear hR hd
  go_enter Tryz.func28, Tryz.ntmps28
  go_wp2_with fail
  go_loop [1] (fun v => ∃ l : Bs, v = .string (mkS l) ∧ l.length ≤ 1000 ∧ Hid (stripAll l = stripAll s.data.toList)) (fun v => strLen v)
  case atStart => exact ⟨s.data.toList, by rw [mkS_self], by rw [size_list]; exact hs, rfl⟩
  case round =>
    obtain ⟨l, rfl, hl, HL⟩ := hrel
    have hsz : (mkS l).size ≤ 100000 := by rw [mkS_size]; omega
    by_cases hsuf : [47] <:+ l
    · have hdec : decide ((⟨#[47]⟩ : ByteArray).data.toList <:+ (mkS l).data.toList) = true := by rw [mkS_toList]; simpa using hsuf
      have HDEC := Lib.hid hdec
      obtain ⟨l', hl', hx⟩ := cut_slash l hsuf
      have hpos : 1 ≤ (mkS l).size := by rw [mkS_size, hl']; simp
      have HLT : Hid (((mkS l).extract 0 ((mkS l).size - 1)).size < (mkS l).size) := by show _ < _; rw [hx, mkS_size, mkS_size, hl']; simp
      have HX := Lib.hid hx
      have HL' := Lib.hid hl'
      clear hx hl' hsuf hdec
      go_wp2_with (go_at_call 38; refine (hasSuffix _ _ _ (by omega) (by decide) true HDEC.out).mono ?_; rintro e w' ⟨rfl, rfl⟩)
      go_round
      case rel => exact ⟨l', by rw [HX.out], by rw [HL'.out] at hl; simp at hl; omega, by show _ = _; rw [← HL.out, HL'.out, stripAll_snoc]⟩
      case measure => exact HLT.out
    · have hdec : decide ((⟨#[47]⟩ : ByteArray).data.toList <:+ (mkS l).data.toList) = false := by rw [mkS_toList]; simpa using hsuf
      have HDEC := Lib.hid hdec
      have hls : l = stripAll s.data.toList := by rw [← HL.out, stripAll_other _ hsuf]
      have HLS := Lib.hid hls
      have hmk : ∀ W : World, (Instr.makeSlice 22 (.int .i64 0) (.int .i64 8)).run Tryz.prog W = .ok (.slice (some ⟨W.heap.size, 0, none⟩) 0 8) (W.alloc (.cells #[.string ⟨#[]⟩, .string ⟨#[]⟩, .string ⟨#[]⟩, .string ⟨#[]⟩, .string ⟨#[]⟩, .string ⟨#[]⟩, .string ⟨#[]⟩, .string ⟨#[]⟩] 9)) := fun W => by kernel_rfl
      clear hsuf hdec hls HL
      go_wp2_with (go_at_call 38; refine (hasSuffix _ _ _ (by omega) (by decide) false HDEC.out).mono ?_; rintro e w' ⟨rfl, rfl⟩)
      have hrem := HRM.out w.heap.size HR.out.lt (mkS l) (.slice (some ⟨w.heap.size, 0, none⟩) 0 8) [] _ (HR.out.alloc (.cells #[.string ⟨#[]⟩, .string ⟨#[]⟩, .string ⟨#[]⟩, .string ⟨#[]⟩, .string ⟨#[]⟩, .string ⟨#[]⟩, .string ⟨#[]⟩, .string ⟨#[]⟩] 9)) (by simp) (World.ownsRow_made w _ 8 (Nat.le_refl _) (by decide) rfl) (by rw [mkS_size]; omega) (by simp; omega)
      rw [mkS_toList, HLS.out] at hrem
      rw [← HLS.out] at hrem
      refine hrem.mono ?_
      clear hrem
      intro e w1 hpost
      cases hres : look M.kids V n [] (stripAll s.data.toList) [] with
      | none =>
        rw [HLS.out, hres] at hpost
        obtain ⟨rfl, hg, _⟩ := hpost
        have hbel : Below w.heap.size w w1 := ((Below.refl _ w).alloc (Nat.le_refl _) _).trans (grownBy_below hg (by simp) (fun b hb => by simp [Value.ownBlock] at hb; omega))
        have hfin : MPost M w (look M.kids V n [] (stripAll s.data.toList) []) (.returned (.tuple #[.pointer none, .slice none 0 0])) w1 := by
          rw [hres]
          exact ⟨hbel, rfl⟩
        have HFIN := Lib.hid (HQ.out _ _ hfin)
        clear hfin hbel hg hres
        go_wp2_with fail
        exact HFIN.out
      | some y =>
        obtain ⟨q, ys⟩ := y
        rw [HLS.out, hres] at hpost
        obtain ⟨v', rfl, hg, _, ho⟩ := hpost
        have hbel : Below w.heap.size w w1 := ((Below.refl _ w).alloc (Nat.le_refl _) _).trans (grownBy_below hg (by simp) (fun b hb => by simp [Value.ownBlock] at hb; omega))
        have hfin : MPost M w (look M.kids V n [] (stripAll s.data.toList) []) (.returned (.tuple #[.pointer (some ⟨M.nb q, 0, none⟩), v'])) w1 := by
          rw [hres]
          exact ⟨hbel, v', rfl, ho⟩
        have HFIN := Lib.hid (HQ.out _ _ hfin)
        clear hfin hbel hg hres ho
        go_wp2_with fail
        exact HFIN.out
end Go.Proofs.YtpdnjgbcnnjdiaaGreatDoor
