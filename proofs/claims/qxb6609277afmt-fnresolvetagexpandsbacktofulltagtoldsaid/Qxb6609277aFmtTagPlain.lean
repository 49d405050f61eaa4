import Derived.Test.Qxb6609277aFmtRows
import Derived.WalkKit
import Derived.WalkSpells
import Derived.Lib.Strings
namespace Go.Proofs.Qxb6609277aFmt
open Go.RowKit
set_option linter.unusedVariables false
set_option linter.unusedSimpArgs false

/-- Does s begin with p? -/
def pre (p s : ByteArray) : Bool := p.data.toList.isPrefixOf s.data.toList

theorem pre_yes {p s : ByteArray} (h : p.size ≤ s.size) : ((s.extract 0 p.size).toList == p.toList) = pre p s := by
  have hl : p.data.toList.length = p.size := rfl
  rw [pre, ByteArray.toList_eq, ByteArray.toList_eq, Go.Lib.extract_data, Bool.eq_iff_iff]
  simp only [beq_iff_eq, List.isPrefixOf_iff_prefix, List.drop_zero, Nat.sub_zero]
  rw [List.prefix_iff_eq_take, hl]
  exact eq_comm
theorem pre_no {p s : ByteArray} (h : ¬ p.size ≤ s.size) : pre p s = false := by
  rw [pre, Bool.eq_false_iff]
  intro hc
  have := (List.isPrefixOf_iff_prefix.1 hc).length_le
  have h1 : p.data.toList.length = p.size := rfl
  have h2 : s.data.toList.length = s.size := rfl
  omega

/-- What CutPrefix hands back. -/
def cutPre (p s : ByteArray) : ByteArray := if pre p s then s.extract p.size s.size else s
theorem cutPre_yes {p s : ByteArray} (h : pre p s = true) : cutPre p s = s.extract p.size s.size := by rw [cutPre, if_pos h]
theorem cutPre_no {p s : ByteArray} (h : pre p s = false) : cutPre p s = s := by rw [cutPre, if_neg (by rw [h]; decide)]
theorem pre_size {p s : ByteArray} (h : pre p s = true) : p.size ≤ s.size := by
  have := (List.isPrefixOf_iff_prefix.1 h).length_le
  have h1 : p.data.toList.length = p.size := rfl
  have h2 : s.data.toList.length = s.size := rfl
  omega

theorem cutPre_size (p s : ByteArray) : (cutPre p s).size ≤ s.size := by
  unfold cutPre
  split
  · simp only [ByteArray.size_extract]; omega
  · exact Nat.le_refl _

def core : ByteArray := ⟨#[116, 97, 103, 58, 121, 97, 109, 108, 46, 111, 114, 103, 44, 50, 48, 48, 50, 58]⟩
/-- What resolveTag makes of the full tag. -/
def short (t : ByteArray) : ByteArray := if pre core t then ⟨#[33, 33]⟩ ++ cutPre core t else if t.toList == [33] then ⟨#[]⟩ else t
theorem short_core {t : ByteArray} (h : pre core t = true) : short t = ⟨#[33, 33]⟩ ++ cutPre core t := by rw [short, if_pos h]
theorem short_one {t : ByteArray} (h : pre core t = false) (h1 : (t.toList == [33]) = true) : short t = ⟨#[]⟩ := by rw [short, if_neg (by rw [h]; decide), if_pos h1]
theorem short_else {t : ByteArray} (h : pre core t = false) (h1 : (t.toList == [33]) = false) : short t = t := by rw [short, if_neg (by rw [h]; decide), if_neg (by rw [h1]; decide)]

theorem take_snoc (s : ByteArray) (k : Nat) (h : k < s.size) : s.data.toList.take (k + 1) = s.data.toList.take k ++ [s[k]] := by
  rw [List.take_succ_eq_append_getElem (by simpa using h)]; rfl

theorem pre_all {p s : ByteArray} (h : p.data.toList.take p.size = s.data.toList.take p.size) : pre p s = true := by
  have hl : p.data.toList.length = p.size := rfl
  rw [pre, List.isPrefixOf_iff_prefix, List.prefix_iff_eq_take, hl, ← h, ← hl, List.take_length]
theorem pre_differ {p s : ByteArray} {k : Nat} (h1 : k < p.size) (h2 : k < s.size) (h : s[k] ≠ p[k]) : pre p s = false := by
  rw [pre, Bool.eq_false_iff]
  intro hc
  have hq := List.isPrefixOf_iff_prefix.1 hc
  have hg := hq.getElem (i := k) (by simpa using h1)
  exact h hg.symm

theorem byte_ne {a b : UInt8} (h : ((a.toNat : Int) != (b.toNat : Int)) = true) : a ≠ b := by
  rintro rfl
  simp at h
theorem byte_eq {a b : UInt8} (h : ((a.toNat : Int) != (b.toNat : Int)) = false) : a = b := by
  have h1 : (a.toNat : Int) = (b.toNat : Int) := by simpa using h
  exact UInt8.toNat_inj.1 (by omega)
theorem take_next {p s : ByteArray} {k : Nat} (h1 : k < p.size) (h2 : k < s.size) (HT : Hid (p.data.toList.take k = s.data.toList.take k)) (h : s[k] = p[k]) : Hid (p.data.toList.take (k + 1) = s.data.toList.take (k + 1)) := by
  show _ = _
  rw [take_snoc p k h1, take_snoc s k h2, HT.out, h]

/-- What zzExpandShort makes of s. -/
def expand (s : ByteArray) : ByteArray := if pre ⟨#[33, 33]⟩ s then core ++ s.extract 2 s.size else s

theorem pre2 (s : ByteArray) : pre ⟨#[33, 33]⟩ s = true ↔ ∃ h : 2 ≤ s.size, s[0] = 33 ∧ s[1] = 33 := by
  have e : ∀ l : List UInt8, [33, 33].isPrefixOf l = true ↔ ∃ h : 2 ≤ l.length, l[0] = 33 ∧ l[1] = 33 := by
    intro l
    match l with
    | [] => simp
    | [a] => simp
    | a :: b :: r =>
      simp [List.isPrefixOf]
      constructor
      · rintro ⟨rfl, rfl⟩; exact ⟨rfl, rfl⟩
      · rintro ⟨rfl, rfl⟩; exact ⟨rfl, rfl⟩
  exact e s.data.toList


theorem expand_yes {s : ByteArray} (h : 2 ≤ s.size) (h0 : ((s[0].toNat : Nat) : Int) = 33) (h1 : (((s[1].toNat : Nat) : Int) == 33) = true) : expand s = core ++ s.extract 2 s.size := by
  have e1 : ((s[1].toNat : Nat) : Int) = 33 := by simpa using h1
  rw [expand, if_pos ((pre2 s).2 ⟨h, UInt8.toNat_inj.1 (by show _ = 33; omega), UInt8.toNat_inj.1 (by show _ = 33; omega)⟩)]
theorem expand_no1 {s : ByteArray} (h : 2 ≤ s.size) (h1 : (((s[1].toNat : Nat) : Int) == 33) = false) : expand s = s := by
  have e1 : ¬ ((s[1].toNat : Nat) : Int) = 33 := by simpa using h1
  rw [expand, if_neg]
  intro hc
  obtain ⟨_, _, hy⟩ := (pre2 s).1 hc
  rw [hy] at e1
  exact e1 rfl
theorem expand_no0 {s : ByteArray} (h : 2 ≤ s.size) (h0 : ¬ ((s[0].toNat : Nat) : Int) = 33) : expand s = s := by
  rw [expand, if_neg]
  intro hc
  obtain ⟨_, hx, _⟩ := (pre2 s).1 hc
  rw [hx] at h0
  exact h0 rfl
theorem expand_short {s : ByteArray} (h : (s.size : Int) < 2) : expand s = s := by
  rw [expand, if_neg]
  intro hc
  obtain ⟨hz, _⟩ := (pre2 s).1 hc
  omega

/-! ### the plain laws, on lists -/
def coreL : List UInt8 := [116, 97, 103, 58, 121, 97, 109, 108, 46, 111, 114, 103, 44, 50, 48, 48, 50, 58]
def shortL (l : List UInt8) : List UInt8 := if coreL.isPrefixOf l then 33 :: 33 :: l.drop 18 else if l == [33] then [] else l

theorem short_list (t : ByteArray) : (short t).data.toList = shortL t.data.toList := by
  have e1 : pre core t = coreL.isPrefixOf t.data.toList := rfl
  have e2 : (t.toList == [33]) = (t.data.toList == [33]) := by rw [ByteArray.toList_eq]
  unfold short shortL
  rw [e1, e2]
  split
  · rename_i h
    have hc : cutPre core t = t.extract 18 t.size := cutPre_yes h
    rw [hc]
    have : (t.extract 18 t.size).data.toList = t.data.toList.drop 18 := by
      rw [Go.Lib.extract_data, List.take_of_length_le]
      have : t.data.toList.length = t.size := rfl
      simp only [List.length_drop]; omega
    rw [ByteArray.data_append, Array.toList_append, this]
    rfl
  · split
    · rfl
    · rfl

theorem core_not (r : List UInt8) : coreL.isPrefixOf (33 :: r) = false := by simp [coreL, List.isPrefixOf]

theorem shortL_idem (l : List UInt8) : shortL (shortL l) = shortL l := by
  by_cases h : coreL.isPrefixOf l = true
  · have e : shortL l = 33 :: 33 :: l.drop 18 := by rw [shortL, if_pos h]
    rw [e, shortL, if_neg (by rw [core_not]; decide), if_neg (by simp)]
  · by_cases h1 : (l == [33]) = true
    · have e : shortL l = [] := by rw [shortL, if_neg h, if_pos h1]
      rw [e]; rfl
    · have e : shortL l = l := by rw [shortL, if_neg h, if_neg h1]
      rw [e, e]

theorem shortL_empty (l : List UInt8) : (shortL l).isEmpty = (l.isEmpty || l == [33]) := by
  by_cases h : coreL.isPrefixOf l = true
  · have e : shortL l = 33 :: 33 :: l.drop 18 := by rw [shortL, if_pos h]
    rw [e]
    match l, h with
    | a :: r, h =>
      have : a = 116 := by
        simp [coreL, List.isPrefixOf] at h
        exact h.1.symm
      subst this
      simp
  · by_cases h1 : (l == [33]) = true
    · have e : shortL l = [] := by rw [shortL, if_neg h, if_pos h1]
      rw [e, h1]; simp
    · have e : shortL l = l := by rw [shortL, if_neg h, if_neg h1]
      rw [e]; simp only [Bool.not_eq_true] at h1; rw [h1, Bool.or_false]

theorem shortL_pre (l : List UInt8) : [33, 33].isPrefixOf (shortL l) = (coreL.isPrefixOf l || [33, 33].isPrefixOf l) := by
  by_cases h : coreL.isPrefixOf l = true
  · have e : shortL l = 33 :: 33 :: l.drop 18 := by rw [shortL, if_pos h]
    rw [e, h]; simp [List.isPrefixOf]
  · have h' : coreL.isPrefixOf l = false := Bool.eq_false_iff.2 h
    by_cases h1 : (l == [33]) = true
    · have e : shortL l = [] := by rw [shortL, if_neg h, if_pos h1]
      have e2 : l = [33] := by simpa using h1
      rw [e, h', e2]; rfl
    · have e : shortL l = l := by rw [shortL, if_neg h, if_neg h1]
      rw [e, h', Bool.false_or]

theorem short_size (t : ByteArray) : (short t).size ≤ t.size + 2 := by
  have h1 : (short t).data.toList.length = (short t).size := rfl
  have h2 : t.data.toList.length = t.size := rfl
  rw [short_list] at h1
  have : (shortL t.data.toList).length ≤ t.data.toList.length + 2 := by
    unfold shortL
    split
    · simp only [List.length_cons, List.length_drop]; omega
    · split
      · simp
      · omega
  omega

theorem short_nil : short ⟨#[]⟩ = ⟨#[]⟩ := by
  have h1 : pre core ⟨#[]⟩ = false := by rfl
  exact short_else h1 (by rw [ByteArray.toList_eq]; rfl)

end Go.Proofs.Qxb6609277aFmt
