import Derived.Test.Qxb6609277aFmtTagWalks
namespace Go.Proofs.Qxb6609277aFmt
open Go.RowKit
set_option linter.unusedVariables false
set_option linter.unusedSimpArgs false

/-! ### the plain laws -/
def expandL (l : List UInt8) : List UInt8 := if [33, 33].isPrefixOf l then coreL ++ l.drop 2 else l
theorem expand_list (t : ByteArray) : (expand t).data.toList = expandL t.data.toList := by
  have e1 : pre ⟨#[33, 33]⟩ t = [33, 33].isPrefixOf t.data.toList := rfl
  unfold expand expandL
  rw [e1]
  split
  · have : (t.extract 2 t.size).data.toList = t.data.toList.drop 2 := by
      rw [Go.Lib.extract_data, List.take_of_length_le]
      have : t.data.toList.length = t.size := rfl
      simp only [List.length_drop]; omega
    rw [ByteArray.data_append, Array.toList_append, this]
    rfl
  · rfl

theorem backL (l : List UInt8) (h1 : (l == [33]) = false) (h2 : [33, 33].isPrefixOf l = false) : expandL (shortL l) = l ∧ coreL.isPrefixOf (shortL l) = false ∧ (shortL l).length ≤ l.length := by
  by_cases h : coreL.isPrefixOf l = true
  · have e : shortL l = 33 :: 33 :: l.drop 18 := by rw [shortL, if_pos h]
    obtain ⟨r, hr⟩ := List.isPrefixOf_iff_prefix.1 h
    have ed : l.drop 18 = r := by rw [← hr]; rfl
    rw [e, ed]
    refine ⟨?_, core_not _, ?_⟩
    · rw [expandL, if_pos (by simp [List.isPrefixOf])]
      show coreL ++ r = l
      exact hr
    · rw [← hr]; simp [coreL]
  · have h' : coreL.isPrefixOf l = false := Bool.eq_false_iff.2 h
    have e : shortL l = l := by rw [shortL, if_neg h, if_neg (by rw [h1]; decide)]
    rw [e]
    exact ⟨by rw [expandL, if_neg (by rw [h2]; decide)], h', Nat.le_refl _⟩

theorem back (t : ByteArray) (h1 : (t.toList == [33]) = false) (h2 : pre ⟨#[33, 33]⟩ t = false) :
    ((expand (short t)).toList == t.toList) = true ∧ pre core (short t) = false ∧ (short t).size ≤ t.size := by
  rw [ByteArray.toList_eq] at h1
  obtain ⟨a, b, c⟩ := backL t.data.toList h1 h2
  refine ⟨?_, ?_, ?_⟩
  · rw [ByteArray.toList_eq, ByteArray.toList_eq, expand_list, short_list, a]; simp
  · show coreL.isPrefixOf (short t).data.toList = false
    rw [short_list]; exact b
  · have e1 : (short t).data.toList.length = (short t).size := rfl
    have e2 : t.data.toList.length = t.size := rfl
    rw [short_list] at e1
    omega

theorem lone (t : ByteArray) (h1 : (t.toList == [33]) = true) : (short t).toList.isEmpty = true := by
  rw [ByteArray.toList_eq] at h1 ⊢
  rw [short_list, shortL_empty, h1, Bool.or_true]

theorem stays (t : ByteArray) (h2 : pre ⟨#[33, 33]⟩ t = true) : (t.toList == [33]) = false ∧ ((short t).toList == t.toList) = true := by
  have h : [33, 33].isPrefixOf t.data.toList = true := h2
  rw [ByteArray.toList_eq, ByteArray.toList_eq, short_list]
  match t.data.toList, h with
  | a :: b :: r, h =>
    have hab : a = 33 ∧ b = 33 := by
      simp [List.isPrefixOf] at h
      exact ⟨h.1.symm, h.2.symm⟩
    obtain ⟨rfl, rfl⟩ := hab
    refine ⟨by simp, ?_⟩
    rw [shortL, if_neg (by rw [core_not]; decide), if_neg (by simp)]
    simp
  | [_], h => simp [List.isPrefixOf] at h
  | [], h => simp [List.isPrefixOf] at h

/-! ### the walks of the law -/
set_option maxHeartbeats 800000 in
theorem law3_early (m : Option Nat) (h : Bool) (tag hd : ByteArray) (L : Int) (w : World) (htz : tag.size ≤ 9223372036854775807) (hdz : hd.size ≤ 9223372036854775807)
    (hlen : ∀ ty, (Builtin.len_ #[22] ty #[.map m]).run Tryf.prog w = .ok (.int .i64 L) w) (hbig : 65536 < tag.size ∨ (tag.size ≤ 65536 ∧ 65536 < hd.size) ∨ (tag.size ≤ 65536 ∧ hd.size ≤ 65536 ∧ 65536 < L)) :
    Calls Tryf.prog 3 #[.map m, .bool h, .string tag, .string hd] w fun e w' => e = .returned (.bool true) ∧ w' = w := by
  rcases hbig with hb | ⟨h1, hb⟩ | ⟨h1, h2, hb⟩
  all_goals
    go_enter Tryf.func3, Tryf.ntmps3
    go_wp2
    go_ret
    exact ⟨rfl, rfl⟩

set_option maxHeartbeats 800000 in
theorem law3_none (m : Option Nat) (tag hd : ByteArray) (L : Int) (w : World) (htz : tag.size ≤ 65536) (hdz : hd.size ≤ 65536) (hL : L ≤ 65536)
    (hlen : ∀ ty, (Builtin.len_ #[22] ty #[.map m]).run Tryf.prog w = .ok (.int .i64 L) w) :
    Calls Tryf.prog 3 #[.map m, .bool false, .string tag, .string hd] w fun e w' => e = .returned (.bool true) ∧ Below w.heap.size w w' := by
  go_enter Tryf.func3, Tryf.ntmps3
  go_wp2_with fail
  refine (zz5_none _ _ _ _).mono ?_
  rintro e w1 ⟨rfl, hb1⟩
  clear hlen
  go_wp2_with fail
  go_ret
  exact ⟨rfl, hb1⟩

/-- The three kinds of a full tag. -/
theorem three (t : ByteArray) : ((t.toList == [33]) = true ∧ (short t).toList.isEmpty = true) ∨ ((t.toList == [33]) = false ∧ pre ⟨#[33, 33]⟩ t = true ∧ ((short t).toList == t.toList) = true) ∨
    ((t.toList == [33]) = false ∧ pre ⟨#[33, 33]⟩ t = false ∧ ((expand (short t)).toList == t.toList) = true ∧ pre core (short t) = false ∧ (short t).size ≤ t.size) := by
  cases h1 : (t.toList == [33])
  · cases h2 : pre ⟨#[33, 33]⟩ t
    · exact Or.inr (Or.inr ⟨rfl, rfl, back t h1 h2⟩)
    · exact Or.inr (Or.inl ⟨rfl, rfl, (stays t h2).2⟩)
  · exact Or.inl ⟨rfl, lone t h1⟩

set_option maxHeartbeats 3200000 in
theorem law3_bare (m : Option Nat) (tag : ByteArray) (L : Int) (w : World) (htz : tag.size ≤ 65536) (hL : L ≤ 65536)
    (hlen : ∀ ty, (Builtin.len_ #[22] ty #[.map m]).run Tryf.prog w = .ok (.int .i64 L) w) :
    Calls Tryf.prog 3 #[.map m, .bool true, .string tag, .string ⟨#[]⟩] w fun e w' => e = .returned (.bool true) ∧ Below w.heap.size w w' := by
  have hz := short_size tag
  rcases three tag with ⟨g1, g2⟩ | ⟨g1, g2, g3⟩ | ⟨g1, g2, g3, g4, g5⟩
  · go_enter Tryf.func3, Tryf.ntmps3
    go_wp2_with fail
    refine (zz5_bare _ _ _ (by omega)).mono ?_
    rintro e w1 ⟨rfl, hb1⟩
    clear hlen
    go_wp2_with fail
    go_ret
    exact ⟨rfl, hb1⟩
  · go_enter Tryf.func3, Tryf.ntmps3
    go_wp2_with fail
    refine (zz5_bare _ _ _ (by omega)).mono ?_
    rintro e w1 ⟨rfl, hb1⟩
    clear hlen
    go_wp2_with (go_at_call 6; refine (hp6 _ _ _ (by omega) (by decide)).mono ?_; rintro e w3 ⟨rfl, n3, rfl⟩)
    go_ret
    exact ⟨rfl, below_drewN hb1 _⟩
  · unfold core at g4
    go_enter Tryf.func3, Tryf.ntmps3
    go_wp2_with fail
    refine (zz5_bare _ _ _ (by omega)).mono ?_
    rintro e w1 ⟨rfl, hb1⟩
    clear hlen
    go_wp2_with (first | (go_at_call 6; refine (hp6 _ _ _ (by omega) (by decide)).mono ?_; rintro e w3 ⟨rfl, n3, rfl⟩) | (go_at_call 7; refine (expand7 _ _ (by omega)).mono ?_; rintro e w3 ⟨rfl, rfl⟩))
    go_ret
    exact ⟨rfl, below_drewN hb1 _⟩

set_option maxHeartbeats 800000 in
theorem law3_absent (m : Option Nat) (tag hd px : ByteArray) (L : Int) (w : World) (htz : tag.size ≤ 65536) (hdz : hd.size ≤ 65536) (hL : L ≤ 65536) (hne : hd.toList.isEmpty = false) (hpz : px.size ≤ 9223372036854775807)
    (hlen : ∀ ty, (Builtin.len_ #[22] ty #[.map m]).run Tryf.prog w = .ok (.int .i64 L) w) (ok : Bool) (hok : ok = false ∨ (ok = true ∧ 65536 < px.size))
    (hl : (Instr.lookup 22 (.map m) (.string hd) true).run Tryf.prog w = .ok (.tuple #[.string px, .bool ok]) w) :
    Calls Tryf.prog 3 #[.map m, .bool true, .string tag, .string hd] w fun e w' => e = .returned (.bool true) ∧ w' = w := by
  rcases hok with rfl | ⟨rfl, hbig⟩
  all_goals
    go_enter Tryf.func3, Tryf.ntmps3
    go_wp2
    go_ret
    exact ⟨rfl, rfl⟩

set_option maxHeartbeats 3200000 in
theorem law3_handle (m : Option Nat) (tag hd px : ByteArray) (L : Int) (w : World) (htz : tag.size ≤ 65536) (hdz : hd.size ≤ 65536) (hL : L ≤ 65536) (hne : hd.toList.isEmpty = false) (hpz : px.size ≤ 65536)
    (hlen : ∀ ty, (Builtin.len_ #[22] ty #[.map m]).run Tryf.prog w = .ok (.int .i64 L) w)
    (hl : ∀ wx : World, Below w.heap.size w wx → (Instr.lookup 22 (.map m) (.string hd) true).run Tryf.prog wx = .ok (.tuple #[.string px, .bool true]) wx) :
    Calls Tryf.prog 3 #[.map m, .bool true, .string tag, .string hd] w fun e w' => e = .returned (.bool true) ∧ Below w.heap.size w w' := by
  have hz := short_size (px ++ tag)
  have hs : (px ++ tag).size = px.size + tag.size := ByteArray.size_append
  have hl0 := hl w (Below.refl _ _)
  have HL : Hid _ := hl
  clear hl
  rcases three (px ++ tag) with ⟨g1, g2⟩ | ⟨g1, g2, g3⟩ | ⟨g1, g2, g3, g4, g5⟩
  · go_enter Tryf.func3, Tryf.ntmps3
    go_wp2_with fail
    refine (zz5_handle _ _ _ px _ htz hpz hne HL.out).mono ?_
    rintro e w1 ⟨rfl, hb1⟩
    clear hlen HL hl0
    go_wp2_with fail
    go_ret
    exact ⟨rfl, hb1⟩
  · go_enter Tryf.func3, Tryf.ntmps3
    go_wp2_with fail
    refine (zz5_handle _ _ _ px _ htz hpz hne HL.out).mono ?_
    rintro e w1 ⟨rfl, hb1⟩
    clear hlen HL hl0
    go_wp2_with (go_at_call 6; refine (hp6 _ _ _ (by omega) (by decide)).mono ?_; rintro e w3 ⟨rfl, n3, rfl⟩)
    go_ret
    exact ⟨rfl, below_drewN hb1 _⟩
  · unfold core at g4
    go_enter Tryf.func3, Tryf.ntmps3
    go_wp2_with fail
    refine (zz5_handle _ _ _ px _ htz hpz hne HL.out).mono ?_
    rintro e w1 ⟨rfl, hb1⟩
    clear hlen HL hl0
    go_wp2_with (first | (go_at_call 6; refine (hp6 _ _ _ (by omega) (by decide)).mono ?_; rintro e w3 ⟨rfl, n3, rfl⟩) | (go_at_call 7; refine (expand7 _ _ (by omega)).mono ?_; rintro e w3 ⟨rfl, rfl⟩))
    go_ret
    exact ⟨congrArg (fun b => Ending.returned (.bool b)) (decide_eq_true (by omega)), below_drewN hb1 _⟩
end Go.Proofs.Qxb6609277aFmt
