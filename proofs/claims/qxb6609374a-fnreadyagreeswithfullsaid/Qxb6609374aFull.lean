import Derived.Test.Qxb6609374aRows
import Derived.WalkKit
import Derived.WalkSpells
import Derived.WalkLawsBesides
import Derived.BigQuiet
import Derived.Deep.OwnRows
namespace Go.Proofs.Qxb6609374a
open Go.RowKit
set_option linter.unusedVariables false
set_option linter.unusedSimpArgs false

/-- What full reads of a backend that has had no reading yet. -/
structure Bk (w : World) (b o : Nat) (up : Bool) (fl mr mw : Int) (ca : Bool) (rk : Option Addr) : Prop where
  up : w.cell? ⟨b, o, none⟩ = some (.bool up)
  fl : w.cell? ⟨b, o + 2, none⟩ = some (.int .i64 fl)
  mr : w.cell? ⟨b, o + 13, none⟩ = some (.int .i64 mr)
  mw : w.cell? ⟨b, o + 23, none⟩ = some (.int .i64 mw)
  ca : w.cell? ⟨b, o + 40, none⟩ = some (.bool ca)
  rd : w.cell? ⟨b, o + 41, none⟩ = some (.bool false)
  rk : w.cell? ⟨b, o + 51, none⟩ = some (.pointer rk)
theorem Bk.drewN {w : World} {b o : Nat} {up : Bool} {fl mr mw : Int} {ca : Bool} {rk : Option Addr} (h : Bk w b o up fl mr mw ca rk) (q : Nat) : Bk (w.drewN q) b o up fl mr mw ca rk := ⟨h.up, h.fl, h.mr, h.mw, h.ca, h.rd, h.rk⟩

def capB (up : Bool) (fl mr : Int) : Bool := !up || (decide (0 < mr) && decide (mr ≤ fl))
def unsB (fl mw : Int) (ca : Bool) : Bool := mw == 0 || (!ca || fl == 0)

set_option maxHeartbeats 400000 in
theorem capped20 (b o : Nat) (up : Bool) (fl mr mw : Int) (ca : Bool) (rk : Option Addr) (w : World) (h : Bk w b o up fl mr mw ca rk) :
    Calls Try.prog 20 #[.pointer (some ⟨b, o, none⟩)] w fun e w' => e = .returned (.bool (capB up fl mr)) ∧ ∃ q, w' = w.drewN q := by
  have c0 := h.up
  have c1 := h.fl
  have c2 := h.mr
  clear h
  cases up with
  | false =>
    go_enter Try.func20, Try.ntmps20
    go_wp2
    go_quiet (fail)
    go_wp2
    go_ret
    exact ⟨rfl, _, rfl⟩
  | true =>
    by_cases hm : 0 < mr
    · go_enter Try.func20, Try.ntmps20
      go_wp2
      go_quiet (fail)
      go_wp2
      go_ret
      exact ⟨by simp [capB, hm], _, rfl⟩
    · have hd : decide (0 < mr) = false := decide_eq_false hm
      go_enter Try.func20, Try.ntmps20
      go_wp2
      go_quiet (fail)
      go_wp2
      go_ret
      exact ⟨by simp [capB]; omega, _, rfl⟩

set_option maxHeartbeats 400000 in
theorem unsat21 (b o : Nat) (up : Bool) (fl mr mw : Int) (ca : Bool) (rk : Option Addr) (w : World) (h : Bk w b o up fl mr mw ca rk) :
    Calls Try.prog 21 #[.pointer (some ⟨b, o, none⟩)] w fun e w' => e = .returned (.bool (unsB fl mw ca)) ∧ w = w' := by
  have c1 := h.fl
  have c3 := h.mw
  have c4 := h.ca
  have c5 := h.rd
  clear h
  cases hw : (mw == 0) with
  | true =>
    go_enter Try.func21, Try.ntmps21
    go_wp2
    go_ret
    exact ⟨by simp [unsB, hw], rfl⟩
  | false =>
    cases ca with
    | false =>
      go_enter Try.func21, Try.ntmps21
      go_wp2
      go_ret
      exact ⟨by simp [unsB, hw], rfl⟩
    | true =>
      go_enter Try.func21, Try.ntmps21
      go_wp2
      go_ret
      exact ⟨by simp [unsB, hw], rfl⟩

set_option maxHeartbeats 400000 in
theorem outranks22 (b : Nat) (le : Int) (w : World) (h : w.cell? ⟨b, 4, none⟩ = some (.int .i64 le)) :
    Calls Try.prog 22 #[.pointer (some ⟨b, 0, none⟩), .int .i64 0] w fun e w' => e = .returned (.bool (decide (0 < le))) ∧ w = w' := by
  go_enter Try.func22, Try.ntmps22
  go_wp2
  go_ret
  exact ⟨rfl, rfl⟩

def fullB (up : Bool) (fl mr mw : Int) (ca out : Bool) : Bool := capB up fl mr || (!unsB fl mw ca && !out)

set_option maxHeartbeats 800000 in
theorem full19_bare (b o : Nat) (up : Bool) (fl mr mw : Int) (ca : Bool) (w : World) (h : Bk w b o up fl mr mw ca none) :
    Calls Try.prog 19 #[.pointer (some ⟨b, o, none⟩)] w fun e w' => e = .returned (.bool (fullB up fl mr mw ca false)) ∧ ∃ q, w' = w.drewN q := by
  have c6 := h.rk
  cases hc : capB up fl mr with
  | true =>
    go_enter Try.func19, Try.ntmps19
    go_wp2_with fail
    refine (capped20 b o up fl mr mw ca none w h).mono ?_
    rintro e w1 ⟨rfl, q, rfl⟩
    go_wp2_with fail
    go_ret
    exact ⟨by simp [fullB, hc], _, rfl⟩
  | false =>
    cases hu : unsB fl mw ca with
    | true =>
      go_enter Try.func19, Try.ntmps19
      go_wp2_with fail
      refine (capped20 b o up fl mr mw ca none w h).mono ?_
      rintro e w1 ⟨rfl, q, rfl⟩
      go_wp2_with fail
      refine (unsat21 b o up fl mr mw ca none (w.drewN q) (h.drewN q)).mono ?_
      rintro e w1 ⟨rfl, rfl⟩
      go_wp2_with fail
      go_ret
      exact ⟨by simp [fullB, hc, hu], _, rfl⟩
    | false =>
      go_enter Try.func19, Try.ntmps19
      go_wp2_with fail
      refine (capped20 b o up fl mr mw ca none w h).mono ?_
      rintro e w1 ⟨rfl, q, rfl⟩
      go_wp2_with fail
      refine (unsat21 b o up fl mr mw ca none (w.drewN q) (h.drewN q)).mono ?_
      rintro e w1 ⟨rfl, rfl⟩
      go_wp2_with fail
      go_ret
      exact ⟨by simp [fullB, hc, hu], _, rfl⟩
set_option maxHeartbeats 800000 in
theorem full19_ranked (b o rb : Nat) (le : Int) (up : Bool) (fl mr mw : Int) (ca : Bool) (w : World) (h : Bk w b o up fl mr mw ca (some ⟨rb, 0, none⟩)) (hr : w.cell? ⟨rb, 4, none⟩ = some (.int .i64 le)) :
    Calls Try.prog 19 #[.pointer (some ⟨b, o, none⟩)] w fun e w' => e = .returned (.bool (fullB up fl mr mw ca (decide (0 < le)))) ∧ ∃ q, w' = w.drewN q := by
  have c6 := h.rk
  cases hc : capB up fl mr with
  | true =>
    go_enter Try.func19, Try.ntmps19
    go_wp2_with fail
    refine (capped20 b o up fl mr mw ca (some ⟨rb, 0, none⟩) w h).mono ?_
    rintro e w1 ⟨rfl, q, rfl⟩
    go_wp2_with fail
    go_ret
    exact ⟨by simp [fullB, hc], _, rfl⟩
  | false =>
    cases hu : unsB fl mw ca with
    | true =>
      go_enter Try.func19, Try.ntmps19
      go_wp2_with fail
      refine (capped20 b o up fl mr mw ca (some ⟨rb, 0, none⟩) w h).mono ?_
      rintro e w1 ⟨rfl, q, rfl⟩
      go_wp2_with fail
      refine (unsat21 b o up fl mr mw ca (some ⟨rb, 0, none⟩) (w.drewN q) (h.drewN q)).mono ?_
      rintro e w1 ⟨rfl, rfl⟩
      go_wp2_with fail
      go_ret
      exact ⟨by simp [fullB, hc, hu], _, rfl⟩
    | false =>
      go_enter Try.func19, Try.ntmps19
      go_wp2_with fail
      refine (capped20 b o up fl mr mw ca (some ⟨rb, 0, none⟩) w h).mono ?_
      rintro e w1 ⟨rfl, q, rfl⟩
      go_wp2_with fail
      refine (unsat21 b o up fl mr mw ca (some ⟨rb, 0, none⟩) (w.drewN q) (h.drewN q)).mono ?_
      rintro e w1 ⟨rfl, rfl⟩
      go_wp2_with fail
      refine (outranks22 rb le (w.drewN q) hr).mono ?_
      rintro e w1 ⟨rfl, rfl⟩
      go_wp2_with fail
      go_ret
      exact ⟨by simp [fullB, hc, hu], _, rfl⟩

/-! ### ZZfull, fullAt -/
set_option maxHeartbeats 400000 in
theorem zz16_bare (b o : Nat) (up : Bool) (fl mr mw : Int) (ca : Bool) (w : World) (h : Bk w b o up fl mr mw ca none) :
    Calls Try.prog 16 #[.pointer (some ⟨b, o, none⟩)] w fun e w' => e = .returned (.bool (fullB up fl mr mw ca false)) ∧ ∃ q, w' = w.drewN q := by
  go_enter Try.func16, Try.ntmps16
  go_wp2_with fail
  refine (full19_bare b o up fl mr mw ca w h).mono ?_
  rintro e w1 ⟨rfl, q, rfl⟩
  go_wp2_with fail
  go_ret
  exact ⟨rfl, _, rfl⟩
set_option maxHeartbeats 400000 in
theorem zz16_ranked (b o rb : Nat) (le : Int) (up : Bool) (fl mr mw : Int) (ca : Bool) (w : World) (h : Bk w b o up fl mr mw ca (some ⟨rb, 0, none⟩)) (hr : w.cell? ⟨rb, 4, none⟩ = some (.int .i64 le)) :
    Calls Try.prog 16 #[.pointer (some ⟨b, o, none⟩)] w fun e w' => e = .returned (.bool (fullB up fl mr mw ca (decide (0 < le)))) ∧ ∃ q, w' = w.drewN q := by
  go_enter Try.func16, Try.ntmps16
  go_wp2_with fail
  refine (full19_ranked b o rb le up fl mr mw ca w h hr).mono ?_
  rintro e w1 ⟨rfl, q, rfl⟩
  go_wp2_with fail
  go_ret
  exact ⟨rfl, _, rfl⟩

set_option maxHeartbeats 400000 in
set_option maxRecDepth 100000 in
theorem new18 (up : Bool) (fl mr mw : Int) (ca : Bool) (w : World) : Calls Try.prog 18 #[.bool up, .int .i64 fl, .int .i64 mr, .int .i64 mw, .bool ca] w fun e w' => e = .returned (.pointer (some ⟨w.heap.size, 0, none⟩)) ∧ Bk w' w.heap.size 0 up fl mr mw ca none ∧ Below w.heap.size w w' := by
  go_enter Try.func18, Try.ntmps18
  go_wp2
  go_ret
  exact ⟨rfl, ⟨by simp, by simp, by simp, by simp, by simp, by simp, by simp⟩, (Below.refl _ _).alloc (Nat.le_refl _) _⟩
set_option maxHeartbeats 400000 in
set_option maxRecDepth 100000 in
theorem new17 (up : Bool) (fl mr mw : Int) (ca : Bool) (le : Int) (w : World) : Calls Try.prog 17 #[.bool up, .int .i64 fl, .int .i64 mr, .int .i64 mw, .bool ca, .int .i64 le] w fun e w' => e = .returned (.pointer (some ⟨w.heap.size + 1, 0, none⟩)) ∧ Bk w' (w.heap.size + 1) 0 up fl mr mw ca (some ⟨w.heap.size, 0, none⟩) ∧ w'.cell? ⟨w.heap.size, 4, none⟩ = some (.int .i64 le) ∧ Below w.heap.size w w' := by
  go_enter Try.func17, Try.ntmps17
  go_wp2
  go_ret
  exact ⟨rfl, ⟨by simp, by simp, by simp, by simp, by simp, by simp, by simp⟩, by simp, ((Below.refl _ _).alloc (Nat.le_refl _) _).alloc (by simp) _⟩

set_option maxHeartbeats 400000 in
theorem fullAt11 (up : Bool) (fl mr mw : Int) (ca ra : Bool) (le : Int) (w : World) :
    Calls Try.prog 11 #[.bool up, .int .i64 fl, .int .i64 mr, .int .i64 mw, .bool ca, .bool ra, .int .i64 le] w fun e w' => e = .returned (.bool (fullB up fl mr mw ca (ra && decide (0 < le)))) ∧ Below w.heap.size w w' := by
  cases ra with
  | true =>
    go_enter Try.func11, Try.ntmps11
    go_wp2_with fail
    refine (new17 up fl mr mw ca le w).mono ?_
    rintro e w1 ⟨rfl, hk, hr, hb⟩
    go_wp2_with fail
    refine (zz16_ranked _ 0 _ le up fl mr mw ca w1 hk hr).mono ?_
    rintro e w2 ⟨rfl, q, rfl⟩
    go_wp2_with fail
    go_ret
    exact ⟨rfl, below_drewN hb _⟩
  | false =>
    go_enter Try.func11, Try.ntmps11
    go_wp2_with fail
    refine (new18 up fl mr mw ca w).mono ?_
    rintro e w1 ⟨rfl, hk, hb⟩
    go_wp2_with fail
    refine (zz16_bare _ 0 up fl mr mw ca w1 hk).mono ?_
    rintro e w2 ⟨rfl, q, rfl⟩
    go_wp2_with fail
    go_ret
    exact ⟨rfl, below_drewN hb _⟩
end Go.Proofs.Qxb6609374a
