/- spec.Host as a function on lists, and that it is PathFromHost's. -/
import Derived.Test.YtpdnjgbcnnjdiaaDoorPure1
import Derived.Test.YtpdnjgbcnnjdiaaDoorCutHost
namespace Go.Proofs.YtpdnjgbcnnjdiaaDoor
open Go Go.RowKit Go.Proofs.YtpdnjgbcnnjdiaaDoorW.PrintWords Go.Proofs.YtpdnjgbcnnjdiaaDoor.PFnMatch
set_option linter.unusedVariables false
set_option linter.unusedSimpArgs false

theorem take_snoc {α : Type} (l : List α) (i : Nat) (h : i < l.length) : l.take (i + 1) = l.take i ++ [l[i]] := by
  rw [List.take_add_one, List.getElem?_eq_getElem h]; rfl
theorem reversed_l (l : List ByteArray) (hl : l.length ≤ 100000) : ∀ (i k : Nat) (acc : List ByteArray), i < k → i ≤ l.length → acc.length + i ≤ 200000 → spec_reversed.l0 k l acc ((i : Int) - 1) = some (acc ++ (l.take i).reverse) := by
  intro i
  induction i with
  | zero =>
    intro k acc hk hi ha
    obtain ⟨k, rfl⟩ : ∃ m, k = m + 1 := ⟨k - 1, by omega⟩
    unfold spec_reversed.l0
    rw [if_neg (by omega)]
    simp
  | succ i ih =>
    intro k acc hk hi ha
    obtain ⟨k, rfl⟩ : ∃ m, k = m + 1 := ⟨k - 1, by omega⟩
    unfold spec_reversed.l0
    rw [show (((i + 1 : Nat) : Int) - 1) = (i : Int) from by omega, if_pos (by omega), if_pos (by omega), if_pos (by omega), if_pos (by omega)]
    rw [show wrap64 ((i : Int) - 1) = ((i : Int) - 1) from by unfold wrap64; omega, ih k _ (by omega) (by omega) (by simp; omega)]
    rw [take_snoc l i (by omega), List.reverse_append]
    simp [rdOf, List.getD, show i < l.length by omega]
theorem reversed_f (l : List ByteArray) (hl : l.length ≤ 100000) (k : Nat) (hk : l.length < k) : spec_reversed.f k l = some l.reverse := by
  unfold spec_reversed.f
  rw [show wrap64 ((l.length : Int) - 1) = ((l.length : Int) - 1) from by unfold wrap64; omega, reversed_l l hl l.length k [] hk (Nat.le_refl _) (by simp; omega)]
  simp

theorem word_some (c : Int) : ∃ b, spec_word.f c = some b := by
  unfold spec_word.f
  split <;> (repeat' split) <;> exact ⟨_, rfl⟩

theorem splitB_len (y : UInt8) : ∀ (l seg : Bs), (splitB y seg l).length ≤ l.length + 1 ∧ ∀ x ∈ splitB y seg l, x.length ≤ seg.length + l.length
  | [], seg => by simp [splitB]
  | c :: r, seg => by
    rw [splitB]
    split
    · obtain ⟨h1, h2⟩ := splitB_len y r []
      refine ⟨by simp; omega, fun x hx => ?_⟩
      rcases List.mem_cons.1 hx with rfl | hx
      · simp
      · have := h2 x hx; simp at this ⊢; omega
    · obtain ⟨h1, h2⟩ := splitB_len y r (seg ++ [c])
      refine ⟨by simp; omega, fun x hx => ?_⟩
      have := h2 x hx; simp at this ⊢; omega
theorem splitB_ne (y : UInt8) : ∀ (l seg : Bs), splitB y seg l ≠ []
  | [], seg => by simp [splitB]
  | c :: r, seg => by
    rw [splitB]
    split
    · simp
    · exact splitB_ne y r _
theorem joinB_len (sep : Bs) (B : Nat) (l : List Bs) (h : ∀ x ∈ l, x.length ≤ B) : (joinB sep l).length ≤ l.length * (sep.length + B) := by
  cases l with
  | nil => simp [joinB]
  | cons a r =>
    have h1 : ∀ r : List Bs, (∀ x ∈ r, x.length ≤ B) → (r.flatMap fun x => sep ++ x).length ≤ r.length * (sep.length + B) := by
      intro r
      induction r with
      | nil => intro _; simp
      | cons b r ih =>
        intro hr
        have := ih fun x hx => hr x (List.mem_cons_of_mem _ hx)
        have hb := hr b (List.mem_cons_self ..)
        rw [List.flatMap_cons, List.length_append, List.length_append, List.length_cons, Nat.add_mul, Nat.one_mul]
        omega
    have h2 := h1 r fun x hx => h x (List.mem_cons_of_mem _ hx)
    have ha := h a (List.mem_cons_self ..)
    rw [joinB, List.length_append, List.length_cons, Nat.add_mul, Nat.one_mul]
    omega

theorem splitB_free (y : UInt8) : ∀ (t seg : Bs), y ∉ t → splitB y seg t = [seg ++ t]
  | [], seg, _ => by simp [splitB]
  | c :: r, seg, h => by
    rw [splitB, if_neg (fun e => h (by simp [e])), splitB_free y r _ (fun e => h (List.mem_cons_of_mem _ e))]
    simp
theorem splitB_at (y : UInt8) (t : Bs) : ∀ (a seg : Bs), splitB y seg (a ++ y :: t) = splitB y seg a ++ splitB y [] t
  | [], seg => by simp [splitB]
  | c :: r, seg => by
    rw [List.cons_append, splitB, splitB]
    split
    · rw [splitB_at y t r [], List.cons_append]
    · exact splitB_at y t r _

def rsplit (y : UInt8) : Bs → Bs → List Bs
  | [], seg => [seg]
  | c :: r, seg => if c = y then seg :: rsplit y r [] else rsplit y r (c :: seg)
theorem rsplit_eq (y : UInt8) : ∀ (r t : Bs), y ∉ t → rsplit y r t = (splitB y [] (r.reverse ++ t)).reverse
  | [], t, h => by rw [List.reverse_nil, List.nil_append, splitB_free y t [] h]; rfl
  | c :: r, t, h => by
    rw [rsplit, List.reverse_cons, List.append_assoc, List.singleton_append]
    split
    · rename_i hc
      rw [rsplit_eq y r [] (by simp), hc, splitB_at y t, splitB_free y t [] h]
      simp
    · rename_i hc
      rw [rsplit_eq y r (c :: t) (by simp; exact ⟨fun e => hc e.symm, h⟩)]
theorem rsplit_head (y : UInt8) : ∀ (r : Bs), ∃ p rest, ∀ u, rsplit y r u = (p ++ u) :: rest
  | [] => ⟨[], [], fun u => rfl⟩
  | c :: r => by
    by_cases h : c = y
    · exact ⟨[], rsplit y r [], fun u => by rw [rsplit, if_pos h]; rfl⟩
    · obtain ⟨p, rest, h2⟩ := rsplit_head y r
      exact ⟨p ++ [c], rest, fun u => by rw [rsplit, if_neg h, h2]; simp⟩

def gd (d : Bool) (x : Bs) : Bs := if d = true then joinB [47, 45, 47] (splitB 45 [] x).reverse else x
theorem joinB_cons (sep a : Bs) (l : List Bs) (h : l ≠ []) : joinB sep (a :: l) = a ++ sep ++ joinB sep l := by
  cases l with
  | nil => exact absurd rfl h
  | cons b r => simp [joinB]
theorem joinB_app (sep a b : Bs) (l : List Bs) : joinB sep ((a ++ b) :: l) = a ++ joinB sep (b :: l) := by
  simp [joinB]
theorem gd_free (d : Bool) (t : Bs) (h : d = true → 45 ∉ t) : gd d t = t := by
  unfold gd
  split
  · rename_i hd
    rw [splitB_free 45 t [] (h hd)]
    simp [joinB]
  · rfl
theorem join_pf (d : Bool) : ∀ (r t : Bs), 46 ∉ t → (d = true → 45 ∉ t) → joinB [47, 46, 47] ((rsplit 46 r t).map (gd d)) = pf d r t
  | [], t, _, h2 => by
    rw [rsplit, pf, List.map_cons, List.map_nil, gd_free d t h2]
    simp [joinB]
  | c :: r, t, h1, h2 => by
    obtain ⟨p, rest, hp⟩ := rsplit_head 46 r
    rw [rsplit, pf]
    by_cases h46 : c = 46
    · rw [if_pos h46, if_pos h46, List.map_cons, gd_free d t h2, ← join_pf d r [] (by simp) (by simp), joinB_cons _ _ _ (by rw [hp]; simp)]
    · rw [if_neg h46, if_neg h46]
      by_cases h45 : c = 45 ∧ d = true
      · obtain ⟨rfl, rfl⟩ := h45
        rw [if_pos ⟨rfl, rfl⟩, ← join_pf true r [] (by simp) (by simp), hp, hp, List.map_cons, List.map_cons]
        have hg : gd true (p ++ 45 :: t) = (t ++ [47, 45, 47]) ++ gd true (p ++ []) := by
          unfold gd
          rw [if_pos rfl, if_pos rfl, splitB_at, splitB_free 45 t [] (h2 rfl), List.append_nil, List.reverse_append]
          simp only [List.nil_append, List.reverse_cons, List.reverse_nil, List.singleton_append]
          rw [joinB_cons _ _ _ (by simp [splitB_ne])]
        rw [hg, joinB_app]
      · rw [if_neg h45]
        refine join_pf d r (c :: t) ?_ ?_
        · simp only [List.mem_cons, not_or]; exact ⟨fun e => h46 e.symm, h1⟩
        · intro hd
          simp only [List.mem_cons, not_or]
          exact ⟨fun e => h45 ⟨e.symm, hd⟩, h2 hd⟩

theorem host_l1 (d : Bool) (L : List Bs) (hL : L.length ≤ 61) (hB : ∀ x ∈ L, x.length ≤ 60) : ∀ (n k i : Nat), L.length - i < n → n + 100 ≤ k → i ≤ L.length →
    spec_Host.l1 k d (((L.take i).map (gd d)).map mkS) (L.map mkS) (L.length : Int) (i : Int) = some (mkS (joinB [47, 46, 47] (L.map (gd d)).reverse), 1) := by
  have hgl : ∀ x ∈ L, (gd d x).length ≤ 4000 := by
    intro x hx
    unfold gd
    split
    · obtain ⟨a1, a2⟩ := splitB_len 45 x []
      have hb := hB x hx
      have := joinB_len [47, 45, 47] 60 (splitB 45 [] x).reverse (fun y hy => by have := a2 y (by simpa using hy); simp at this; omega)
      rw [List.length_reverse] at this
      have h2 : (splitB 45 [] x).length * (([47, 45, 47] : Bs).length + 60) ≤ 61 * 63 := Nat.mul_le_mul (by omega) (by simp)
      omega
    · have := hB x hx; omega
  intro n
  induction n with
  | zero => intro k i h; omega
  | succ n ih =>
    intro k i hn hk hi
    obtain ⟨k, rfl⟩ : ∃ m, k = m + 1 := ⟨k - 1, by omega⟩
    unfold spec_Host.l1
    by_cases h : i < L.length
    · have ht : ((L.take (i + 1)).map (gd d)).map mkS = ((L.take i).map (gd d)).map mkS ++ [mkS (gd d L[i])] := by
        rw [take_snoc L i h, List.map_append, List.map_append]; rfl
      have key := ih k (i + 1) (by omega) (by omega) (by omega)
      rw [ht] at key
      have hb := hB _ (List.getElem_mem h)
      have hlen : (((L.take i).map (gd d)).map mkS).length < 8796093022208 := by simp; omega
      rw [if_pos (by omega), if_pos (by omega), if_pos (by rw [List.length_map]; omega), wrap_nat i (by omega), rdOf_mk L i h]
      cases d with
      | true =>
        obtain ⟨a1, a2⟩ := splitB_len 45 L[i] []
        rw [if_pos rfl, show (45 : Int) = ((45 : UInt8).toNat : Int) from rfl, parted_f (mkS L[i]) 45 (by rw [mkS_size]; omega) k (by rw [mkS_size]; omega), Option.bind_some, mkS_toList, reversed_f _ (by rw [List.length_map]; omega) k (by rw [List.length_map]; omega), Option.bind_some, ← List.map_reverse]
        have hj : (joinB [47, 45, 47] (splitB 45 [] L[i]).reverse).length ≤ 1000000 := by
          have := hgl _ (List.getElem_mem h)
          unfold gd at this
          rw [if_pos rfl] at this
          omega
        rw [show (⟨#[47, 45, 47]⟩ : ByteArray) = mkS [47, 45, 47] from rfl, joinTexts_f [47, 45, 47] _ (by rw [List.length_reverse]; omega) hj k (by rw [List.length_reverse]; omega), Option.bind_some, if_pos hlen]
        exact key
      | false =>
        rw [if_neg (by simp), if_pos hlen]
        exact key
    · have hi2 : i = L.length := by omega
      subst hi2
      rw [if_neg (by omega), List.take_length, reversed_f _ (by simp; omega) k (by simp; omega), Option.bind_some, ← List.map_reverse]
      have hj : (joinB [47, 46, 47] (L.map (gd d)).reverse).length ≤ 1000000 := by
        have := joinB_len [47, 46, 47] 4000 (L.map (gd d)).reverse (fun y hy => by
          rw [List.mem_reverse, List.mem_map] at hy
          obtain ⟨x, hx, rfl⟩ := hy
          exact hgl x hx)
        have h2 : (L.map (gd d)).reverse.length * (([47, 46, 47] : Bs).length + 4000) ≤ 61 * 4003 := Nat.mul_le_mul (by simp; omega) (by simp)
        omega
      rw [show (⟨#[47, 46, 47]⟩ : ByteArray) = mkS [47, 46, 47] from rfl, joinTexts_f [47, 46, 47] _ (by simp; omega) hj k (by simp; omega), Option.bind_some]

theorem host_l0 (s : ByteArray) (d : Bool) (hs : s.size ≤ 60) : ∀ (n k i : Nat), s.size - i < n → n + 200 ≤ k → i ≤ s.size →
    ∃ r t, spec_Host.l0 k s d (s.size : Int) (i : Int) = some (r, t) ∧ (t = 1 → r = mkS (pf d s.data.toList.reverse [])) := by
  intro n
  induction n with
  | zero => intro k i h; omega
  | succ n ih =>
    intro k i hn hk hi
    obtain ⟨k, rfl⟩ : ∃ m, k = m + 1 := ⟨k - 1, by omega⟩
    unfold spec_Host.l0
    by_cases h : i < s.size
    · rw [if_pos (by omega), if_pos (by omega), if_pos (by omega), wrap_nat i (by omega)]
      obtain ⟨b, hb⟩ := word_some (bt s (i : Int))
      rw [hb, Option.bind_some]
      have key := ih k (i + 1) (by omega) (by omega) (by omega)
      split
      · exact key
      · split
        · exact key
        · split
          · exact key
          · exact ⟨_, _, rfl, fun h => by cases h⟩
    · rw [if_neg (by omega), show (46 : Int) = ((46 : UInt8).toNat : Int) from rfl, parted_f s 46 (by omega) k (by omega), Option.bind_some]
      obtain ⟨a1, a2⟩ := splitB_len 46 s.data.toList []
      have := host_l1 d (splitB 46 [] s.data.toList) (by rw [size_list] at a1; omega) (fun x hx => by have := a2 x hx; rw [size_list] at this; simp at this; omega) (s.size + 2) k 0 (by rw [size_list] at a1; omega) (by omega) (by omega)
      refine ⟨_, _, by rw [List.length_map]; exact this, fun _ => ?_⟩
      rw [← join_pf d s.data.toList.reverse [] (by simp) (by simp), rsplit_eq 46 _ [] (by simp), List.reverse_reverse, List.append_nil, List.map_reverse]
theorem host_f (s : ByteArray) (d : Bool) (hs : s.size ≤ 60) : ∃ k r t, spec_Host.f k s d = some (r, t) ∧ (t = 1 → r = mkS (pf d s.data.toList.reverse [])) :=
  ⟨s.size + 300, host_l0 s d hs (s.size + 1) _ 0 (by omega) (by omega) (by omega)⟩
end Go.Proofs.YtpdnjgbcnnjdiaaDoor
