import Derived.Test.Qxb6609374aRows
import Derived.WalkKit
import Derived.ProofKit
import Derived.OpenShut
import Derived.Deep.Slices
namespace Go.Proofs.Qxb6609374a
open Go.ChangeShapes Go.WideShapes Go.ChangeAt Go.RowKit Go.Deep
set_option linter.unusedVariables false

theorem own : ownKnob Try.prog.godebug = none := by kernel_rfl
theorem laidOut : laidOutB Try.prog = true := by kernel_rfl
theorem Try.cells24 : Try.prog.cellsOf 24 = 1 := by kernel_rfl
theorem Try.cells4 : Try.prog.cellsOf 4 = 1 := by kernel_rfl

theorem float_cell {H : Type} {enc : TypeId × Value → H} {w : World} {base : Nat} {sp : Nat → Bool} {held : Bool} {n : Nat} {v : Value} {x : DataW H × List MemPlace}
    (h : DataW.trod enc Try.prog w base sp held n 24 [v] = some x) : ∃ b, v = .float .f64 b := by
  cases n with
  | zero => simp [DataW.trod] at h
  | succ n =>
    simp only [DataW.trod, Try.underlying24] at h
    cases v <;> simp at h
    rename_i k b
    cases k
    · simp at h
    · exact ⟨_, rfl⟩

theorem bool_cell {H : Type} {enc : TypeId × Value → H} {w : World} {base : Nat} {sp : Nat → Bool} {held : Bool} {n : Nat} {v : Value} {x : DataW H × List MemPlace}
    (h : DataW.trod enc Try.prog w base sp held n 4 [v] = some x) : ∃ b, v = .bool b := by
  cases n with
  | zero => simp [DataW.trod] at h
  | succ n =>
    simp only [DataW.trod, Try.underlying4] at h
    cases v <;> simp at h
    exact ⟨_, rfl⟩

theorem block_lt {W : World} {a : Addr} {v : Value} (h : W.cell? a = some v) : a.block < W.heap.size := World.block_lt_of_cell? _ _ h

set_option maxRecDepth 100000 in
theorem floats_of {H : Type} {enc : TypeId × Value → H} {W : World} {base : Nat} {v0 : Value} {d0 : DataW H} {p0 : List MemPlace} (hv : Value.okWide Try.prog W .any base 22 v0) (h0 : DataW.Trod enc Try.prog W 0 (fun _ => true) true 22 v0 d0 p0) :
    v0 = .slice none 0 0 ∨ ∃ (ad : Addr) (len cap : Nat) (F : Nat → Nat), v0 = .slice (some ad) len cap ∧ len ≤ maxLen ∧ (∀ j, j < len → W.cell? (ad.add j) = some (.float .f64 (F j))) ∧ (0 < len → ad.block < W.heap.size) := by
  obtain ⟨a0, len, cap, rfl⟩ := okWide_slice Try.underlying22 hv
  obtain ⟨fuel, hf⟩ := h0
  rcases open_slice1 Try.underlying22 Try.cells24 hf with ⟨hcs, _⟩ | ⟨a, len', cap', m, n, V, D, Pl, hcs, _, hl, hm, hmm, _, hx⟩
  · left; simpa [Value.cells] using hcs
  · right
    simp [Value.cells] at hcs
    obtain ⟨rfl, rfl, rfl⟩ := hcs
    simp only [if_true] at hmm
    obtain ⟨F, hF⟩ := choose_lt (α := Nat) (p := fun i b => V i = .float .f64 b) (n := len) (fun i hi => float_cell (hx i (by omega)).2)
    refine ⟨a, len, cap, F, rfl, by omega, fun j hj => by rw [(hx j (by omega)).1, hF j hj], fun hp => ?_⟩
    have := block_lt (hx 0 (by omega)).1
    simpa [Addr.add] using this

set_option maxRecDepth 100000 in
theorem bools_of {H : Type} {enc : TypeId × Value → H} {W : World} {base : Nat} {v0 : Value} {d0 : DataW H} {p0 : List MemPlace} (hv : Value.okWide Try.prog W .any base 32 v0) (h0 : DataW.Trod enc Try.prog W 0 (fun _ => true) true 32 v0 d0 p0) :
    v0 = .slice none 0 0 ∨ ∃ (ad : Addr) (len cap : Nat) (F : Nat → Bool), v0 = .slice (some ad) len cap ∧ len ≤ maxLen ∧ (∀ j, j < len → W.cell? (ad.add j) = some (.bool (F j))) ∧ (0 < len → ad.block < W.heap.size) := by
  obtain ⟨a0, len, cap, rfl⟩ := okWide_slice Try.underlying32 hv
  obtain ⟨fuel, hf⟩ := h0
  rcases open_slice1 Try.underlying32 Try.cells4 hf with ⟨hcs, _⟩ | ⟨a, len', cap', m, n, V, D, Pl, hcs, _, hl, hm, hmm, _, hx⟩
  · left; simpa [Value.cells] using hcs
  · right
    simp [Value.cells] at hcs
    obtain ⟨rfl, rfl, rfl⟩ := hcs
    simp only [if_true] at hmm
    obtain ⟨F, hF⟩ := choose_lt (α := Bool) (p := fun i b => V i = .bool b) (n := len) (fun i hi => bool_cell (hx i (by omega)).2)
    refine ⟨a, len, cap, F, rfl, by omega, fun j hj => by rw [(hx j (by omega)).1, hF j hj], fun hp => ?_⟩
    have := block_lt (hx 0 (by omega)).1
    simpa [Addr.add] using this
end Go.Proofs.Qxb6609374a
