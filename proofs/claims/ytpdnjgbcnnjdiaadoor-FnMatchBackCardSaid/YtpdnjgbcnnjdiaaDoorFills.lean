/- A list of pieces, filled: its text is matched by its tokens. -/
import Derived.Test.YtpdnjgbcnnjdiaaDoorVars
namespace Go.Proofs.YtpdnjgbcnnjdiaaDoor
open Go Go.RowKit Go.Proofs.YtpdnjgbcnnjdiaaDoorW.PrintWords Go.Proofs.YtpdnjgbcnnjdiaaDoor.PFnMatchBack
set_option linter.unusedVariables false
set_option linter.unusedSimpArgs false

/-- A list of pieces, the list with its variables filled, what they are filled with. -/
inductive Fills : List S33 → List S33 → List ByteArray → Prop
  | nil : Fills [] [] []
  | const {l full want} (x : S33) : x.f0 = false → Lett x.f1 → Fills l full want → Fills (l ++ [x]) (full ++ [x]) want
  | var {l full want} (x : S33) (f : ByteArray) : x.f0 = true → Lett x.f1 → Lett f → Fills l full want → Fills (l ++ [x]) (full ++ [⟨false, f⟩]) (want ++ [f])

theorem Fills.facts {l full want} (h : Fills l full want) : full.length = l.length ∧ want.length ≤ l.length ∧ (∀ x ∈ l, Lett x.f1) ∧ (∀ x ∈ full, Lett x.f1) ∧ (∀ s ∈ want, Lett s) := by
  induction h with
  | nil => simp
  | const x h0 hx hFl ih =>
    obtain ⟨h1, h2, h3, h4, h5⟩ := ih
    refine ⟨by simp [h1], by simp; omega, ?_, ?_, h5⟩
    · intro y hy
      rcases List.mem_append.1 hy with hy | hy
      · exact h3 y hy
      · rw [List.mem_singleton.1 hy]; exact hx
    · intro y hy
      rcases List.mem_append.1 hy with hy | hy
      · exact h4 y hy
      · rw [List.mem_singleton.1 hy]; exact hx
  | var x f h0 hx hf hFl ih =>
    obtain ⟨h1, h2, h3, h4, h5⟩ := ih
    refine ⟨by simp [h1], by simp; omega, ?_, ?_, ?_⟩
    · intro y hy
      rcases List.mem_append.1 hy with hy | hy
      · exact h3 y hy
      · rw [List.mem_singleton.1 hy]; exact hx
    · intro y hy
      rcases List.mem_append.1 hy with hy | hy
      · exact h4 y hy
      · rw [List.mem_singleton.1 hy]; exact hf
    · intro y hy
      rcases List.mem_append.1 hy with hy | hy
      · exact h5 y hy
      · rw [List.mem_singleton.1 hy]; exact hf

theorem lett_noslash {s : ByteArray} (h : Lett s) : 47 ∉ s.data.toList := fun hm => (lett_const h 47 hm).2.1 rfl
theorem takeW (f rest : Bs) (h : 47 ∉ f) (hr : rest = [] ∨ ∃ r', rest = 47 :: r') : (f ++ rest).takeWhile (· != 47) = f ∧ (f ++ rest).dropWhile (· != 47) = rest := by
  induction f with
  | nil => rcases hr with rfl | ⟨r', rfl⟩ <;> simp
  | cons a t ih =>
    have h1 : a ≠ 47 := fun e => h (by simp [e])
    have h2 := ih (fun hm => h (List.mem_cons_of_mem _ hm))
    have h3 : (a != 47) = true := by simpa using h1
    rw [List.cons_append, List.takeWhile_cons, List.dropWhile_cons, h3]
    simp [h2.1, h2.2]

theorem mt_fills {l full want} (h : Fills l full want) : ∀ (ts : List Tok) (rest : Bs) (vals : List Bs), (rest = [] ∨ ∃ r', rest = 47 :: r') → mt (tokP l ++ ts) (patB full ++ rest) vals = mt ts rest (vals ++ want.map (·.data.toList)) := by
  induction h with
  | nil => intro ts rest vals _; simp [tokP, patB]
  | const x h0 hx hFl ih =>
    intro ts rest vals hr
    rename_i l full want
    have h1 : tokP (l ++ [x]) ++ ts = tokP l ++ ((0, [47]) :: (0, x.f1.data.toList) :: ts) := by simp [tokP, h0]
    have h2 : patB (full ++ [x]) ++ rest = patB full ++ (47 :: (x.f1.data.toList ++ rest)) := by simp [patB, pieceB, h0]
    rw [h1, h2, ih _ _ _ (.inr ⟨_, rfl⟩)]
    rw [mt, if_pos rfl, if_pos (by simp)]
    simp only [List.length_singleton, List.drop_succ_cons, List.drop_zero]
    rw [mt, if_pos rfl, if_pos (List.prefix_append _ _)]
    simp
  | var x f h0 hx hf hFl ih =>
    intro ts rest vals hr
    rename_i l full want
    have h1 : tokP (l ++ [x]) ++ ts = tokP l ++ ((0, [47]) :: (2, []) :: ts) := by simp [tokP, h0]
    have h2 : patB (full ++ [⟨false, f⟩]) ++ rest = patB full ++ (47 :: (f.data.toList ++ rest)) := by simp [patB, pieceB]
    rw [h1, h2, ih _ _ _ (.inr ⟨_, rfl⟩)]
    rw [mt, if_pos rfl, if_pos (by simp)]
    simp only [List.length_singleton, List.drop_succ_cons, List.drop_zero]
    obtain ⟨t1, t2⟩ := takeW f.data.toList rest (lett_noslash hf) hr
    rw [mt, if_neg (by simp), if_pos rfl, t1, t2]
    simp
theorem mt_full {l full want} (h : Fills l full want) : mt (tokP l) (stripAll (patB full)) [] = some (want.map (·.data.toList)) := by
  rw [stripAll_other _ (pat_noslash full h.facts.2.2.2.1)]
  have := mt_fills h [] [] [] (.inl rfl)
  rw [List.append_nil, List.append_nil] at this
  rw [this]
  simp [mt]

theorem patB_lenB (B : Nat) (l : List S33) (h : ∀ x ∈ l, x.f1.size ≤ B) : (patB l).length ≤ l.length * (B + 3) := by
  induction l with
  | nil => simp [patB]
  | cons a r ih =>
    have h1 := ih fun x hx => h x (List.mem_cons_of_mem _ hx)
    have ha := h a (List.mem_cons_self ..)
    have h2 : (pieceB a).length ≤ B + 3 := by
      unfold pieceB
      split <;> simp [size_list] <;> omega
    unfold patB at h1 ⊢
    rw [List.flatMap_cons, List.length_append, List.length_cons, Nat.add_mul, Nat.one_mul]
    omega

/-- The cells of a list of pieces. -/
def pcells (l : List S33) : List Value := l.flatMap fun x => [.bool x.f0, .string x.f1]
theorem pcells_len (l : List S33) : (pcells l).length = l.length * 2 := by
  induction l with
  | nil => rfl
  | cons a r ih =>
    have : pcells (a :: r) = .bool a.f0 :: .string a.f1 :: pcells r := rfl
    rw [this]
    simp [ih]
    omega
theorem pcells_get (l : List S33) : ∀ (j : Nat) (x : S33), l[j]? = some x → (pcells l)[j * 2]? = some (.bool x.f0) ∧ (pcells l)[j * 2 + 1]? = some (.string x.f1) := by
  induction l with
  | nil => intro j x h; simp at h
  | cons a r ih =>
    intro j x h
    have he : pcells (a :: r) = .bool a.f0 :: .string a.f1 :: pcells r := rfl
    rw [he]
    cases j with
    | zero => simp at h; subst h; simp
    | succ j =>
      have := ih j x (by simpa using h)
      rw [show (j + 1) * 2 = j * 2 + 1 + 1 from by omega]
      simpa using this
theorem C_of_pcells {w : World} {B : Nat} {v : Value} {l : List S33} (h : w.ownsRow B 33 2 v l.length (pcells l)) : ∃ A c, v = .slice A l.length c ∧ l.length ≤ c ∧ Kd.C k33 w A l.length l := by
  rcases h.2 with ⟨rfl, h0⟩ | ⟨g, cap, cur, rfl, hbg, hg, hnc, hcm, hcs, htake⟩
  · have : l = [] := List.eq_nil_of_length_eq_zero h0
    subst this
    exact ⟨none, 0, rfl, Nat.le_refl _, Kd.C_nil _ _⟩
  · refine ⟨_, cap, rfl, hnc, rfl, ?_, fun _ => ⟨_, rfl, fun j p hj => ?_⟩⟩
    · unfold maxLen at hcm; omega
    · obtain ⟨g0, g1⟩ := pcells_get l j p hj
      refine ⟨[.bool p.f0, .string p.f1], rfl, k33_mk w p, fun i u hu => ?_⟩
      have hc := h.cells (g := g) rfl
      match i, hu with
      | 0, hu => simp at hu; subst hu; exact hc _ _ g0
      | 1, hu => simp at hu; subst hu; exact hc _ _ g1
end Go.Proofs.YtpdnjgbcnnjdiaaDoor
