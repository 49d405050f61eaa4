import Derived.Test.Qxb6609374aOrd
import Derived.WalkSpells
import Derived.WalkLawsBesides
import Derived.BigQuiet
import Derived.Deep.OwnRows
import Derived.Laws.CopyOwn
namespace Go.Proofs.Qxb6609374a
open Go.RowKit
set_option linter.unusedVariables false
set_option linter.unusedSimpArgs false

theorem Try.info39 : (Try.prog.info? 39).map (fun i => (i.zero, i.size, i.bytes)) = some (some (.pointer none), 1, 8) := by kernel_rfl
theorem Try.info24 : (Try.prog.info? 24).map (fun i => (i.zero, i.size, i.bytes)) = some (some (.float .f64 0), 1, 8) := by kernel_rfl
theorem Try.info3 : (Try.prog.info? 3).map (fun i => (i.zero, i.size, i.bytes)) = some (some (.int .i64 0), 1, 8) := by kernel_rfl


/-- WHAT ZZnewByCounter LAYS: the row of pointers at block N, tenant j at block N + 1 + j, the byCounter at block N + 1 + n. -/
structure Byc (w : World) (N n : Nat) (F : Nat → Nat) : Prop where
  items : w.rowIs N 39 n (fun j => .pointer (some ⟨N + 1 + j, 0, none⟩))
  ten : ∀ j, j < n → w.cell? ⟨N + 1 + j, 3, none⟩ = some (.float .f64 (F j))
  box : w.cell? ⟨N + 1 + n, 0, none⟩ = some (.slice (some ⟨N, 0, none⟩) n n)

theorem Byc.below {w w' : World} {N n : Nat} {F : Nat → Nat} {B : Nat} (h : Byc w N n F) (hb : Below B w w') (hB : N + 2 + n ≤ B) : Byc w' N n F :=
  ⟨h.items.of_block (hb.block N (by omega)), fun j hj => (hb.cell (p := ⟨N + 1 + j, 3, none⟩) (by show N + 1 + j < B; omega)).trans (h.ten j hj), (hb.cell (p := ⟨N + 1 + n, 0, none⟩) (by show N + 1 + n < B; omega)).trans h.box⟩

/-- At the loop's head, k tenants made. -/
structure Mid (w wr : World) (b n k : Nat) (F : Nat → Nat) : Prop where
  bel : Below w.heap.size w wr
  row : wr.rowIs b 24 n (fun j => .float .f64 (F j))
  items : wr.rowIs w.heap.size 39 n (fun j => if j < k then .pointer (some ⟨w.heap.size + 1 + j, 0, none⟩) else .pointer none)
  ten : ∀ j, j < k → wr.cell? ⟨w.heap.size + 1 + j, 3, none⟩ = some (.float .f64 (F j))
  size : wr.heap.size = w.heap.size + 1 + k

theorem mid_start {w : World} {b n : Nat} {F : Nat → Nat} (hr : w.rowIs b 24 n (fun j => .float .f64 (F j))) : Mid w (w.alloc (.cells (madeCells #[.pointer none] n) 39)) b n 0 F :=
  ⟨(Below.refl _ _).alloc (Nat.le_refl _) _, hr.alloc _, (World.rowIs_made w _ n 39).congr (fun j _ => by simp), fun j hj => absurd hj (Nat.not_lt_zero _), by simp⟩

theorem mid_step {w wr : World} {b n k : Nat} {F : Nat → Nat} (hb : b < w.heap.size) (h : Mid w wr b n k F) (c : Array Value) (h3 : c[3]? = some (.float .f64 (F k))) :
    Mid w ((wr.alloc (.cells c 46)).setCell ⟨w.heap.size, k, none⟩ (.pointer (some ⟨w.heap.size + 1 + k, 0, none⟩))) b n (k + 1) F := by
  have hs := h.size
  refine ⟨(h.bel.alloc (by omega) _).setCell (Nat.le_refl _) _, (h.row.alloc _).setOther (by show b ≠ w.heap.size; omega) _, ((h.items.alloc _).set k _).congr (fun j _ => ?_), fun j hj => ?_, by simp [hs]; omega⟩
  · by_cases e : j = k
    · subst e; simp
    · simp only [if_neg e]
      by_cases hlt : j < k
      · rw [if_pos hlt, if_pos (by omega)]
      · rw [if_neg hlt, if_neg (by omega)]
  · rw [World.cell?_setCell_other _ _ _ _ (fun e => by have := congrArg Addr.block e; simp at this; omega)]
    by_cases e : j = k
    · subst e
      rw [← hs]
      simp [h3]
    · rw [World.cell?_alloc_old _ _ _ (by show w.heap.size + 1 + j ≠ wr.heap.size; omega)]
      exact h.ten j (by omega)

theorem mid_end {w wr : World} {b n : Nat} {F : Nat → Nat} (h : Mid w wr b n n F) (c : Array Value) (h0 : c[0]? = some (.slice (some ⟨w.heap.size, 0, none⟩) n n)) :
    Byc (wr.alloc (.cells c 51)) w.heap.size n F ∧ Below w.heap.size w (wr.alloc (.cells c 51)) ∧ (wr.alloc (.cells c 51)).heap.size = w.heap.size + 2 + n := by
  have hs := h.size
  refine ⟨⟨(h.items.alloc _).congr (fun j hj => by simp [hj]), fun j hj => ?_, ?_⟩, h.bel.alloc (by omega) _, by simp [hs]; omega⟩
  · rw [World.cell?_alloc_old _ _ _ (by show w.heap.size + 1 + j ≠ wr.heap.size; omega)]
    exact h.ten j hj
  · rw [← hs]
    simp [h0]

set_option maxHeartbeats 400000 in
theorem new8 (b n c : Nat) (F : Nat → Nat) (w : World) (hn : n ≤ 100000) (hr : w.rowIs b 24 n (fun j => .float .f64 (F j))) :
    Calls Try.prog 8 #[.slice (some ⟨b, 0, none⟩) n c] w fun e w' => e = .returned (.pointer (some ⟨w.heap.size + 1 + n, 0, none⟩)) ∧ Byc w' w.heap.size n F ∧ Below w.heap.size w w' ∧ w'.heap.size = w.heap.size + 2 + n := by
  have hmk := run_make_row' (P := Try.prog) 38 39 (.pointer none) 8 Try.underlying38 Try.info39 rfl .i64 .i64 n (by omega) (by omega)
  have hb := hr.lt
  go_enter Try.func8, Try.ntmps8
  go_wp2
  clear hmk
  go_loopw [4] (fun i wr => ∃ k : Nat, k ≤ n ∧ i = .int .i64 k ∧ Mid w wr b n k F) (fun i _ => n - (intOf i).toNat)
  case atStart => exact ⟨0, Nat.zero_le _, rfl, mid_start hr⟩
  case round =>
    obtain ⟨k, hk, rfl, hM⟩ := hrel
    have hs := hM.size
    by_cases hlt : k < n
    · have hc := hM.row.cell hlt
      have hp : ∀ o, (wr.alloc o).cell? ⟨w.heap.size, k, none⟩ = some (.pointer none) := fun o => by rw [(hM.items.alloc o).cell hlt]; simp
      have hf : ∀ o, (wr.alloc o).frozen? ⟨w.heap.size, k, none⟩ = false := fun o => (hM.items.alloc o).frozen k
      go_wp2
      go_roundw
      case rel => exact ⟨k + 1, by omega, by go_num, mid_step hb hM _ rfl⟩
      case measure => simp [intOf]; omega
    · obtain rfl : k = n := by omega
      go_wp2
      go_ret
      exact ⟨by simp [hs], mid_end hM _ rfl⟩

set_option maxHeartbeats 400000 in
theorem less9 (N n i j : Nat) (F : Nat → Nat) (w : World) (hn : n ≤ 100000) (h : Byc w N n F) (hi : i < n) (hj : j < n) :
    Calls Try.prog 9 #[.pointer (some ⟨N + 1 + n, 0, none⟩), .int .i64 i, .int .i64 j] w fun e w' => e = .returned (.bool (FloatKind.f64.format.order (F i) (F j) == some .lt)) ∧ ∃ q, w' = w.drewN q := by
  have c0 := h.box
  have c1 := h.items.cell hi
  have c2 := h.items.cell hj
  have c3 := h.ten i hi
  have c4 := h.ten j hj
  have hiz : (i : Int) < (n : Int) := by omega
  have hjz : (j : Int) < (n : Int) := by omega
  go_enter Try.func9, Try.ntmps9
  go_wp2
  go_quiet (fail)
  go_wp2
  go_ret
  exact ⟨rfl, _, rfl⟩
end Go.Proofs.Qxb6609374a
