import Derived.Test.Qxb6609374aRows
import Derived.WalkKit
namespace Go.Proofs.Qxb6609374a
open Go.RowKit
set_option linter.unusedVariables false
set_option linter.unusedSimpArgs false

/-! ### THE ORDER OF FLOATS THAT ARE NO NaN: by two ranks, compared one behind the other -/
def ford (x y : Nat) : Option Ordering := FloatKind.f64.format.order x y
def rk1 : Ieee.Datum → Int
  | .infinity s => if s then -1 else 1
  | _ => 0
def rk2 (L : Int) : Ieee.Datum → Int
  | .number s m i => Ieee.signed s m (i - L).toNat
  | _ => 0
def r1 (x : Nat) : Int := rk1 (FloatKind.f64.format.read x)
def r2 (x : Nat) : Int := rk2 FloatKind.f64.format.leastPlace (FloatKind.f64.format.read x)

theorem read_place {f : Ieee.Format} {x : Nat} {s : Bool} {m : Nat} {i : Int} (h : f.read x = .number s m i) : f.leastPlace ≤ i := by
  unfold Ieee.Format.read at h
  simp only at h
  split at h
  · injection h with _ _ h3; omega
  · split at h
    · injection h with _ _ h3; omega
    · split at h
      · cases h
      · cases h

theorem signed_up (s : Bool) (m a c : Nat) : Ieee.signed s m (a + c) = Ieee.signed s m a * ((2 ^ c : Nat) : Int) := by
  unfold Ieee.signed
  have e : m <<< (a + c) = (m <<< a) * 2 ^ c := by rw [Nat.shiftLeft_eq, Nat.shiftLeft_eq, Nat.pow_add, Nat.mul_assoc]
  cases s
  · simp only [Bool.false_eq_true, if_false, e]; push_cast; rfl
  · simp only [if_true, e]; push_cast; rw [Int.neg_mul]

theorem cmp_lt {a b : Int} (h : a < b) : compare a b = .lt := by
  show compareOfLessAndEq a b = _
  rw [compareOfLessAndEq, if_pos h]
theorem cmp_eq {a b : Int} (h : a = b) : compare a b = .eq := by
  show compareOfLessAndEq a b = _
  rw [compareOfLessAndEq, if_neg (by omega), if_pos h]
theorem cmp_gt {a b : Int} (h : b < a) : compare a b = .gt := by
  show compareOfLessAndEq a b = _
  rw [compareOfLessAndEq, if_neg (by omega), if_neg (by omega)]

theorem compare_mul (a b : Int) (p : Nat) (hp : 0 < p) : compare a b = compare (a * (p : Int)) (b * (p : Int)) := by
  have hp' : (0 : Int) < (p : Int) := by omega
  rcases Int.lt_trichotomy a b with h | h | h
  · have h2 : a * (p : Int) < b * (p : Int) := Int.mul_lt_mul_of_pos_right h hp'
    rw [cmp_lt h, cmp_lt h2]
  · subst h; rw [cmp_eq rfl, cmp_eq rfl]
  · have h2 : b * (p : Int) < a * (p : Int) := Int.mul_lt_mul_of_pos_right h hp'
    rw [cmp_gt h, cmp_gt h2]

theorem number_order (L : Int) (s t : Bool) (m n : Nat) (i j : Int) (hi : L ≤ i) (hj : L ≤ j) :
    compare (Ieee.signed s m (i - min i j).toNat) (Ieee.signed t n (j - min i j).toNat) = compare (Ieee.signed s m (i - L).toNat) (Ieee.signed t n (j - L).toNat) := by
  have e1 : (i - L).toNat = (i - min i j).toNat + (min i j - L).toNat := by omega
  have e2 : (j - L).toNat = (j - min i j).toNat + (min i j - L).toNat := by omega
  rw [e1, e2, signed_up, signed_up]
  exact compare_mul _ _ _ (Nat.pos_of_ne_zero (by simp))

/-- How two floats stand to each other, by their ranks. -/
def flt (x y : Nat) : Prop := r1 x < r1 y ∨ (r1 x = r1 y ∧ r2 x < r2 y)
def feq (x y : Nat) : Prop := r1 x = r1 y ∧ r2 x = r2 y

theorem ford_cases {x y : Nat} (hx : ford x x = some .eq) (hy : ford y y = some .eq) :
    (ford x y = some .lt ∧ flt x y) ∨ (ford x y = some .eq ∧ feq x y) ∨ (ford x y = some .gt ∧ flt y x) := by
  unfold ford Ieee.Format.order at *
  unfold flt feq r1 r2
  cases ex : FloatKind.f64.format.read x with
  | nan s f => rw [ex] at hx; simp [Ieee.Datum.order] at hx
  | infinity s =>
    cases ey : FloatKind.f64.format.read y with
    | nan s f => rw [ey] at hy; simp [Ieee.Datum.order] at hy
    | infinity t => cases s <;> cases t <;> simp [Ieee.Datum.order, rk1, rk2] <;> decide
    | number t n j => cases s <;> simp [Ieee.Datum.order, rk1, rk2]
  | number s m i =>
    cases ey : FloatKind.f64.format.read y with
    | nan s f => rw [ey] at hy; simp [Ieee.Datum.order] at hy
    | infinity t => cases t <;> simp [Ieee.Datum.order, rk1, rk2]
    | number t n j =>
      have hi := read_place ex
      have hj := read_place ey
      simp only [Ieee.Datum.order, rk1, rk2]
      rw [number_order _ s t m n i j hi hj]
      rcases Int.lt_trichotomy (Ieee.signed s m (i - FloatKind.f64.format.leastPlace).toNat) (Ieee.signed t n (j - FloatKind.f64.format.leastPlace).toNat) with h | h | h
      · rw [cmp_lt h]; exact Or.inl ⟨rfl, Or.inr ⟨trivial, h⟩⟩
      · rw [cmp_eq h]; exact Or.inr (Or.inl ⟨rfl, trivial, h⟩)
      · rw [cmp_gt h]; exact Or.inr (Or.inr ⟨rfl, Or.inr ⟨trivial, h⟩⟩)

theorem flt_asymm {x y : Nat} (h : flt x y) : ¬ flt y x := by unfold flt at *; omega
theorem flt_trans {x y z : Nat} (h : flt x y) (k : flt y z) : flt x z := by unfold flt at *; omega
theorem flt_feq {x y z : Nat} (h : flt x y) (k : feq y z) : flt x z := by unfold flt feq at *; omega
theorem feq_flt {x y z : Nat} (h : feq x y) (k : flt y z) : flt x z := by unfold flt feq at *; omega
theorem feq_trans {x y z : Nat} (h : feq x y) (k : feq y z) : feq x z := by unfold feq at *; omega
theorem feq_symm {x y : Nat} (h : feq x y) : feq y x := by unfold feq at *; omega
theorem flt_not_feq {x y : Nat} (h : flt x y) : ¬ feq x y := by unfold flt feq at *; omega

theorem lss_iff {x y : Nat} (hx : ford x x = some .eq) (hy : ford y y = some .eq) : (ford x y == some .lt) = true ↔ flt x y := by
  rcases ford_cases hx hy with ⟨e, h⟩ | ⟨e, h⟩ | ⟨e, h⟩
  · rw [e]; simp [h]
  · rw [e]; simp; intro hc; exact flt_not_feq hc h
  · rw [e]; simp; exact flt_asymm h
theorem gtr_iff {x y : Nat} (hx : ford x x = some .eq) (hy : ford y y = some .eq) : (ford x y == some .gt) = true ↔ flt y x := by
  rcases ford_cases hx hy with ⟨e, h⟩ | ⟨e, h⟩ | ⟨e, h⟩
  · rw [e]; simp; exact flt_asymm h
  · rw [e]; simp; intro hc; exact flt_not_feq hc (feq_symm h)
  · rw [e]; simp [h]
theorem eql_iff {x y : Nat} (hx : ford x x = some .eq) (hy : ford y y = some .eq) : (ford x y == some .eq) = true ↔ feq x y := by
  rcases ford_cases hx hy with ⟨e, h⟩ | ⟨e, h⟩ | ⟨e, h⟩
  · rw [e]; simp; exact flt_not_feq h
  · rw [e]; simp [h]
  · rw [e]; simp; intro hc; exact flt_not_feq h (feq_symm hc)
end Go.Proofs.Qxb6609374a
