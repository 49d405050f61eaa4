import Derived.Test.Qxb6612282aPlace
namespace Go.Proofs.Qxb6612282a
open Go.RowKit
set_option linter.unusedVariables false
set_option linter.unusedSimpArgs false

/-- The group at block g, its field sem holding v; of what was there before nothing has turned. -/
structure Gr (w wr : World) (g : Nat) (v : Value) : Prop where
  bel : Below w.heap.size w wr
  cnt : wr.cell? ⟨g, 0, none⟩ = some (.int .i64 0)
  sem : wr.cell? ⟨g, 13, none⟩ = some v
  free : wr.frozen? ⟨g, 13, none⟩ = false
  ge : w.heap.size ≤ g
  lt : g < wr.heap.size

/-- A limit n with j places taken (n below 0: no limit). -/
structure Lim (w wr : World) (g : Nat) (n : Int) (j : Nat) : Prop where
  none : n < 0 → Gr w wr g (.chan .none)
  some : 0 ≤ n → ∃ (c : Nat) (buf : Array Value) (s : Nat), Gr w wr g (.chan (Option.some c)) ∧ wr.heap[c]? = Option.some (.chan n.toNat buf false s 0 false) ∧ buf.size = j ∧ c ≠ g ∧ w.heap.size ≤ c ∧ c < wr.heap.size

theorem Gr.set {w wr : World} {g : Nat} {v : Value} (h : Gr w wr g v) (u : Value) : Gr w (wr.setCell ⟨g, 13, none⟩ u) g u := by
  refine ⟨h.bel.setCell h.ge _, ?_, World.cell?_setCell_same _ _ _ h.sem, ?_, h.ge, ?_⟩
  · rw [World.cell?_setCell_other _ _ _ _ (by intro e; have := congrArg Addr.off e; simp at this)]; exact h.cnt
  · rw [World.frozen?_setCell]; exact h.free
  · simpa [World.setCell] using h.lt
theorem Gr.alloc {w wr : World} {g : Nat} {v : Value} (h : Gr w wr g v) (o : Obj) : Gr w (wr.alloc o) g v := by
  have hl := h.lt
  refine ⟨h.bel.alloc h.bel.size _, ?_, ?_, ?_, h.ge, by simp; omega⟩
  · rw [World.cell?_alloc_old _ _ _ (by show g ≠ _; omega)]; exact h.cnt
  · rw [World.cell?_alloc_old _ _ _ (by show g ≠ _; omega)]; exact h.sem
  · rw [World.frozen?_alloc_old _ _ _ (by show g ≠ _; omega)]; exact h.free
theorem Gr.setChan {w wr : World} {g : Nat} {v : Value} (h : Gr w wr g v) {c : Nat} (hc : c ≠ g) (hw : w.heap.size ≤ c) (cp : Nat) (buf : Array Value) (cl : Bool) (s r : Nat) (tm : Bool) : Gr w (wr.setChan c cp buf cl s r tm) g v := by
  have hb : (wr.setChan c cp buf cl s r tm).heap[g]? = wr.heap[g]? := by
    simp only [World.setChan]; rw [Array.getElem?_setIfInBounds_ne hc]
  refine ⟨Go.Conc.below_setChan h.bel hw _ _ _ _ _ _, ?_, ?_, ?_, h.ge, by rw [Go.Conc.size_setChan]; exact h.lt⟩
  · rw [World.cell?_of_block (w := wr) (a := ⟨g, 0, none⟩) hb]; exact h.cnt
  · rw [World.cell?_of_block (w := wr) (a := ⟨g, 13, none⟩) hb]; exact h.sem
  · rw [World.frozen?_of_block (w := wr) (a := ⟨g, 13, none⟩) hb]; exact h.free

/-! ### the contracts, by 'Lim' -/
theorem set5 (w wr : World) (g : Nat) (v : Value) (n : Int) (h : Gr w wr g v) (hn : n ≤ 65536) :
    Calls Try.prog 5 #[.pointer (some ⟨g, 0, none⟩), .int .i64 n] wr fun e w' => e = .returned (.tuple #[]) ∧ Lim w w' g n 0 := by
  by_cases h0 : n < 0
  · refine (set5_neg g n v wr h0 h.cnt h.sem h.free).mono ?_
    rintro e w' ⟨rfl, rfl⟩
    exact ⟨rfl, fun _ => h.set _, fun h1 => absurd h0 (by omega)⟩
  · obtain ⟨m, rfl⟩ := Int.eq_ofNat_of_zero_le (show 0 ≤ n by omega)
    refine (set5_pos g m v wr (by omega) h.cnt h.sem h.free h.lt).mono ?_
    rintro e w' ⟨rfl, rfl⟩
    have hl := h.lt
    have hs := h.bel.size
    refine ⟨rfl, fun h1 => absurd h1 h0, fun _ => ⟨wr.heap.size, #[], 0, (h.set _).alloc _, ?_, rfl, by omega, hs, by simp [World.setCell]⟩⟩
    have e2 : ∀ (u : Value) (o : Obj), ((wr.setCell ⟨g, 13, none⟩ u).alloc o).heap[wr.heap.size]? = some o := by
      intro u o
      have e1 : (wr.setCell ⟨g, 13, none⟩ u).heap.size = wr.heap.size := by simp [World.setCell]
      have := heap_alloc_new (wr.setCell ⟨g, 13, none⟩ u) o
      rw [e1] at this
      exact this
    rw [Int.toNat_natCast]
    exact e2 _ _

set_option maxHeartbeats 400000 in
theorem take6 (w wr : World) (g : Nat) (n : Int) (j : Nat) (h : Lim w wr g n j) (hj : n < 0 ∨ (j : Int) < n) :
    Calls Try.prog 6 #[.pointer (some ⟨g, 0, none⟩)] wr fun e w' => e = .returned (.tuple #[]) ∧ Lim w w' g n (j + 1) := by
  by_cases h0 : n < 0
  · have hg := h.none h0
    go_enter Try.func6, Try.ntmps6
    go_wp2_with fail
    refine (take11_no g wr hg.sem).mono ?_
    rintro e w' ⟨rfl, rfl⟩
    go_wp2
    go_end0
    exact ⟨rfl, fun _ => hg, fun h1 => absurd h0 (by omega)⟩
  · obtain ⟨c, buf, s, hg, hc, hb, hne, hw, hl⟩ := h.some (by omega)
    have hroom : buf.size < n.toNat := by omega
    have hq := take11_yes g c n.toNat buf s 0 wr hg.sem hc hroom
    go_enter Try.func6, Try.ntmps6
    go_wp2_with fail
    refine hq.mono ?_
    rintro e w' ⟨rfl, rfl⟩
    clear hq
    go_wp2
    go_end0
    refine ⟨rfl, fun h1 => absurd h1 (by omega), fun _ => ⟨c, buf.push (.agg #[]), s + 1, hg.setChan hne hw _ _ _ _ _ _, Go.Conc.heap_setChan _ _ _ _ _ _ _ _ hl, by simp [hb], hne, hw, by rw [Go.Conc.size_setChan]; exact hl⟩⟩

theorem has_no (w wr : World) (g : Nat) (n : Int) (j : Nat) (h : Lim w wr g n j) (hn : n < 0) : Calls Try.prog 7 #[.pointer (some ⟨g, 0, none⟩)] wr fun e w' => e = .returned (.bool false) ∧ wr = w' := has7_no g wr (h.none hn).sem
theorem has_yes (w wr : World) (g : Nat) (n : Int) (j : Nat) (h : Lim w wr g n j) (hn : 0 ≤ n) : Calls Try.prog 7 #[.pointer (some ⟨g, 0, none⟩)] wr fun e w' => e = .returned (.bool true) ∧ wr = w' := by
  obtain ⟨c, buf, s, hg, hc, hb, hne, hw, hl⟩ := h.some hn
  exact has7_yes g c wr hg.sem
theorem len_no (w wr : World) (g : Nat) (n : Int) (j : Nat) (h : Lim w wr g n j) (hn : n < 0) : Calls Try.prog 8 #[.pointer (some ⟨g, 0, none⟩)] wr fun e w' => e = .returned (.int .i64 0) ∧ wr = w' := len8_no g wr (h.none hn).sem
theorem len_yes (w wr : World) (g : Nat) (n : Int) (j : Nat) (h : Lim w wr g n j) (hn : 0 ≤ n) : Calls Try.prog 8 #[.pointer (some ⟨g, 0, none⟩)] wr fun e w' => e = .returned (.int .i64 j) ∧ wr = w' := by
  obtain ⟨c, buf, s, hg, hc, hb, hne, hw, hl⟩ := h.some hn
  have := len8_yes g c n.toNat buf s 0 wr hg.sem hc
  rw [hb] at this
  exact this
theorem cap_no (w wr : World) (g : Nat) (n : Int) (j : Nat) (h : Lim w wr g n j) (hn : n < 0) : Calls Try.prog 9 #[.pointer (some ⟨g, 0, none⟩)] wr fun e w' => e = .returned (.int .i64 0) ∧ wr = w' := cap9_no g wr (h.none hn).sem
theorem cap_yes (w wr : World) (g : Nat) (n : Int) (j : Nat) (h : Lim w wr g n j) (hn : 0 ≤ n) : Calls Try.prog 9 #[.pointer (some ⟨g, 0, none⟩)] wr fun e w' => e = .returned (.int .i64 n) ∧ wr = w' := by
  obtain ⟨c, buf, s, hg, hc, hb, hne, hw, hl⟩ := h.some hn
  have := cap9_yes g c n.toNat buf s 0 wr hg.sem hc
  rw [Int.toNat_of_nonneg hn] at this
  exact this
theorem Lim.gr {w wr : World} {g : Nat} {n : Int} {j : Nat} (h : Lim w wr g n j) : ∃ v, Gr w wr g v := by
  by_cases h0 : n < 0
  · exact ⟨_, h.none h0⟩
  · obtain ⟨c, buf, s, hg, _⟩ := h.some (by omega)
    exact ⟨_, hg⟩

/-- 'new(Group)'. -/
theorem gr_new (w : World) (c : Array Value) (h0 : c[0]? = some (.int .i64 0)) (h13 : c[13]? = some (.chan none)) : Gr w (w.alloc (.cells c 55)) w.heap.size (.chan none) := by
  have hb : (w.alloc (.cells c 55)).heap[w.heap.size]? = some (.cells c 55) := heap_alloc_new _ _
  refine ⟨(Below.refl _ _).alloc (Nat.le_refl _) _, by simp [h0], by simp [h13], ?_, Nat.le_refl _, by simp⟩
  simp only [World.frozen?, hb]
  simp
end Go.Proofs.Qxb6612282a
