import Derived.Test.Qxb6609374aLess
namespace Go.Proofs.Qxb6609374a
open Go.RowKit
set_option linter.unusedVariables false
set_option linter.unusedSimpArgs false

/-! ### INSERTION SORT, PLAIN: F: the counters (as words); p: what perm holds -/
def lex (F p : Nat → Nat) (i j : Nat) : Prop := flt (F (p i)) (F (p j)) ∨ (feq (F (p i)) (F (p j)) ∧ p i < p j)
theorem lex_trans {F p : Nat → Nat} {i j k : Nat} (h : lex F p i j) (h' : lex F p j k) : lex F p i k := by
  rcases h with h | ⟨h, h1⟩
  · rcases h' with h' | ⟨h', h2⟩
    · exact Or.inl (flt_trans h h')
    · exact Or.inl (flt_feq h h')
  · rcases h' with h' | ⟨h', h2⟩
    · exact Or.inl (feq_flt h h')
    · exact Or.inr ⟨feq_trans h h', by omega⟩
theorem flt_total (x y : Nat) : flt x y ∨ feq x y ∨ flt y x := by unfold flt feq; omega

structure Srt (F : Nat → Nat) (n a : Nat) (p : Nat → Nat) : Prop where
  sorted : ∀ i j, i < j → j < a → lex F p i j
  small : ∀ i, i < a → p i < a
  rest : ∀ j, a ≤ j → j < n → p j = j

structure Mids (F : Nat → Nat) (n a b : Nat) (p : Nat → Nat) : Prop where
  here : p b = a
  sorted : ∀ i j, i < j → j ≤ a → i ≠ b → j ≠ b → lex F p i j
  past : ∀ j, b < j → j ≤ a → flt (F a) (F (p j))
  small : ∀ i, i ≤ a → i ≠ b → p i < a
  rest : ∀ j, a < j → j < n → p j = j

theorem srt_start (F : Nat → Nat) (n : Nat) : Srt F n 1 (fun j => j) :=
  ⟨fun i j h1 h2 => by omega, fun i h => h, fun j _ _ => rfl⟩

theorem mids_start {F : Nat → Nat} {n a : Nat} {p : Nat → Nat} (h : Srt F n a p) (ha : a < n) : Mids F n a a p :=
  ⟨h.rest a (Nat.le_refl _) ha, fun i j h1 h2 h3 h4 => h.sorted i j h1 (by omega), fun j h1 h2 => by omega, fun i h1 h2 => h.small i (by omega), fun j h1 h2 => h.rest j (by omega) h2⟩

/-- perm[b], perm[b+1] exchanged. -/
def swp (p : Nat → Nat) (b : Nat) : Nat → Nat := fun j => if j = b then p (b + 1) else if j = b + 1 then p b else p j
theorem swp_a (p : Nat → Nat) (b : Nat) : swp p b b = p (b + 1) := by simp [swp]
theorem swp_b (p : Nat → Nat) (b : Nat) : swp p b (b + 1) = p b := by simp [swp]
theorem swp_o (p : Nat → Nat) (b j : Nat) (h : j ≠ b) (h' : j ≠ b + 1) : swp p b j = p j := by simp [swp, h, h']

theorem mids_step {F : Nat → Nat} {n a b : Nat} {p : Nat → Nat} (h : Mids F n a (b + 1) p) (hb : b + 1 ≤ a) (hl : flt (F (p (b + 1))) (F (p b))) : Mids F n a b (swp p b) := by
  have e := h.here
  rw [e] at hl
  refine ⟨by rw [swp_a]; exact e, fun i j h1 h2 h3 h4 => ?_, fun j h1 h2 => ?_, fun i h1 h2 => ?_, fun j h1 h2 => ?_⟩
  · unfold lex
    by_cases hi : i = b + 1
    · subst hi
      rw [swp_b, swp_o p b j (by omega) (by omega)]
      exact h.sorted b j (by omega) h2 (by omega) (by omega)
    · rw [swp_o p b i h3 hi]
      by_cases hj : j = b + 1
      · subst hj
        rw [swp_b]
        exact h.sorted i b (by omega) (by omega) hi (by omega)
      · rw [swp_o p b j h4 hj]
        exact h.sorted i j h1 h2 hi hj
  · by_cases hj : j = b + 1
    · subst hj; rw [swp_b]; exact hl
    · rw [swp_o p b j (by omega) hj]; exact h.past j (by omega) h2
  · by_cases hi : i = b + 1
    · subst hi; rw [swp_b]; exact h.small b (by omega) (by omega)
    · rw [swp_o p b i h2 hi]; exact h.small i h1 hi
  · rw [swp_o p b j (by omega) (by omega)]; exact h.rest j h1 h2

theorem mids_end {F : Nat → Nat} {n a b : Nat} {p : Nat → Nat} (h : Mids F n a b p) (hb : b ≤ a) (hl : ∀ b', b = b' + 1 → ¬ flt (F (p b)) (F (p b'))) : Srt F n (a + 1) p := by
  have e := h.here
  have hprev : ∀ b', b = b' + 1 → lex F p b' b := by
    intro b' hb'
    have h1 := hl b' hb'
    have h2 := h.small b' (by omega) (by omega)
    rcases flt_total (F (p b')) (F (p b)) with h3 | h3 | h3
    · exact Or.inl h3
    · exact Or.inr ⟨h3, by omega⟩
    · exact absurd h3 h1
  refine ⟨fun i j h1 h2 => ?_, fun i hi => ?_, fun j h1 h2 => h.rest j (by omega) h2⟩
  · by_cases hi : i = b
    · subst hi
      refine Or.inl ?_
      rw [e]
      exact h.past j h1 (by omega)
    · by_cases hj : j = b
      · subst hj
        obtain ⟨b', rfl⟩ : ∃ b', j = b' + 1 := ⟨j - 1, by omega⟩
        have := hprev b' rfl
        by_cases hib : i = b'
        · subst hib; exact this
        · exact lex_trans (h.sorted i b' (by omega) (by omega) hi (by omega)) this
      · exact h.sorted i j h1 (by omega) hi hj
  · by_cases hib : i = b
    · subst hib; omega
    · have := h.small i (by omega) hib; omega

theorem srt_bound {F : Nat → Nat} {n a : Nat} {p : Nat → Nat} (h : Srt F n a p) (ha : a ≤ n) {i : Nat} (hi : i < n) : p i < n := by
  by_cases h1 : i < a
  · have := h.small i h1; omega
  · rw [h.rest i (by omega) hi]; exact hi
theorem mids_bound {F : Nat → Nat} {n a b : Nat} {p : Nat → Nat} (h : Mids F n a b p) (ha : a < n) {i : Nat} (hi : i < n) : p i < n := by
  by_cases h0 : i = b
  · subst h0; rw [h.here]; exact ha
  · by_cases h1 : i ≤ a
    · have := h.small i h1 h0; omega
    · rw [h.rest i (by omega) hi]; exact hi

/-! ### what the last loop asks of two neighbours -/
theorem ends_gtr {F p : Nat → Nat} {i j : Nat} (h : lex F p i j) (hi : ford (F (p i)) (F (p i)) = some .eq) (hj : ford (F (p j)) (F (p j)) = some .eq) : (ford (F (p i)) (F (p j)) == some .gt) = false := by
  rw [Bool.eq_false_iff]
  intro hc
  have := (gtr_iff hi hj).1 hc
  rcases h with h | ⟨h, _⟩
  · exact flt_asymm h this
  · exact flt_not_feq this (feq_symm h)
theorem ends_eql {F p : Nat → Nat} {i j : Nat} (h : lex F p i j) (hi : ford (F (p i)) (F (p i)) = some .eq) (hj : ford (F (p j)) (F (p j)) = some .eq) (he : (ford (F (p i)) (F (p j)) == some .eq) = true) : p i < p j := by
  have := (eql_iff hi hj).1 he
  rcases h with h | ⟨_, h⟩
  · exact absurd this (flt_not_feq h)
  · exact h

/-! ### perm in memory -/
structure Pm (w3 wr : World) (n : Nat) (p : Nat → Nat) : Prop where
  bel : Below w3.heap.size w3 wr
  row : wr.rowIs w3.heap.size 3 n (fun j => .int .i64 (p j))

theorem pm_start (w3 : World) (n : Nat) : Pm w3 (w3.alloc (.cells (madeCells #[.int .i64 0] n) 3)) n (fun _ => 0) :=
  ⟨(Below.refl _ _).alloc (Nat.le_refl _) _, World.rowIs_made w3 _ n 3⟩
theorem Pm.drewN {w3 wr : World} {n : Nat} {p : Nat → Nat} (h : Pm w3 wr n p) (q : Nat) : Pm w3 (wr.drewN q) n p := ⟨below_drewN h.bel q, h.row⟩
theorem Pm.set {w3 wr : World} {n : Nat} {p : Nat → Nat} (h : Pm w3 wr n p) (j v : Nat) : Pm w3 (wr.setCell ⟨w3.heap.size, j, none⟩ (.int .i64 v)) n (fun i => if i = j then v else p i) :=
  ⟨h.bel.setCell (Nat.le_refl _) _, (h.row.set j _).congr (fun i _ => by by_cases e : i = j <;> simp [e])⟩
theorem Pm.congr {w3 wr : World} {n : Nat} {p p' : Nat → Nat} (h : Pm w3 wr n p) (e : ∀ i, i < n → p i = p' i) : Pm w3 wr n p' := ⟨h.bel, h.row.congr (fun i hi => by rw [e i hi])⟩
theorem Pm.fill {w3 wr : World} {n k : Nat} (h : Pm w3 wr n (fun j => if j < k then j else 0)) : Pm w3 (wr.setCell ⟨w3.heap.size, k, none⟩ (.int .i64 k)) n (fun j => if j < k + 1 then j else 0) :=
  (h.set k k).congr fun i _ => by
    by_cases e : i = k
    · subst e; simp
    · by_cases hlt : i < k
      · simp [e, hlt, Nat.lt_succ_of_lt hlt]
      · have : ¬ i < k + 1 := by omega
        simp [e, hlt, this]
theorem Pm.full {w3 wr : World} {n : Nat} (h : Pm w3 wr n (fun j => if j < n then j else 0)) : Pm w3 wr n (fun j => j) := h.congr fun i hi => by simp [hi]
theorem Pm.swap {w3 wr : World} {n : Nat} {p : Nat → Nat} (h : Pm w3 wr n p) (b : Nat) :
    Pm w3 ((wr.setCell ⟨w3.heap.size, b + 1, none⟩ (.int .i64 (p b))).setCell ⟨w3.heap.size, b, none⟩ (.int .i64 (p (b + 1)))) n (swp p b) :=
  ((h.set (b + 1) (p b)).set b (p (b + 1))).congr fun i _ => by
    by_cases e : i = b
    · subst e; simp [swp]
    · by_cases e2 : i = b + 1
      · subst e2; simp [swp]
      · simp [swp, e, e2]
end Go.Proofs.Qxb6609374a
