import Derived.Test.Qxb6609277aFmtTagWalks
namespace Go.Proofs.Qxb6609277aFmt
open Go.RowKit
set_option linter.unusedVariables false
set_option linter.unusedSimpArgs false

/-- What the walk is told of a full tag t, test by test. -/
theorem full_cases (t : ByteArray) :
    ((short (short t)).toList == (short t).toList) = true ∧ (short t).toList.isEmpty = (t.toList.isEmpty || t.toList == [33]) ∧ pre ⟨#[33, 33]⟩ (short t) = (pre core t || pre ⟨#[33, 33]⟩ t) := by
  refine ⟨?_, ?_, ?_⟩
  · rw [ByteArray.toList_eq, ByteArray.toList_eq, short_list, short_list, shortL_idem]; simp
  · rw [ByteArray.toList_eq, ByteArray.toList_eq, short_list, shortL_empty]
  · show [33, 33].isPrefixOf (short t).data.toList = _
    rw [short_list, shortL_pre]; rfl

set_option maxHeartbeats 800000 in
theorem law4_early (m : Option Nat) (h : Bool) (tag hd : ByteArray) (L : Int) (w : World) (htz : tag.size ≤ 9223372036854775807) (hdz : hd.size ≤ 9223372036854775807)
    (hlen : ∀ ty, (Builtin.len_ #[22] ty #[.map m]).run Tryf.prog w = .ok (.int .i64 L) w) (hbig : 65536 < tag.size ∨ (tag.size ≤ 65536 ∧ 65536 < hd.size) ∨ (tag.size ≤ 65536 ∧ hd.size ≤ 65536 ∧ 65536 < L)) :
    Calls Tryf.prog 4 #[.map m, .bool h, .string tag, .string hd] w fun e w' => e = .returned (.bool true) ∧ w' = w := by
  rcases hbig with hb | ⟨h1, hb⟩ | ⟨h1, h2, hb⟩
  all_goals
    go_enter Tryf.func4, Tryf.ntmps4
    go_wp2
    go_ret
    exact ⟨rfl, rfl⟩


set_option maxHeartbeats 800000 in
theorem law4_none (m : Option Nat) (tag hd : ByteArray) (L : Int) (w : World) (htz : tag.size ≤ 65536) (hdz : hd.size ≤ 65536) (hL : L ≤ 65536)
    (hlen : ∀ ty, (Builtin.len_ #[22] ty #[.map m]).run Tryf.prog w = .ok (.int .i64 L) w) :
    Calls Tryf.prog 4 #[.map m, .bool false, .string tag, .string hd] w fun e w' => e = .returned (.bool true) ∧ Below w.heap.size w w' := by
  have hpz : pre ⟨#[33, 33]⟩ ⟨#[]⟩ = false := by rfl
  go_enter Tryf.func4, Tryf.ntmps4
  go_wp2_with fail
  refine (zz5_none _ _ _ _).mono ?_
  rintro e w1 ⟨rfl, hb1⟩
  clear hlen
  go_wp2_with fail
  refine (zz5_bare _ _ _ (by decide)).mono ?_
  rintro e w2 ⟨rfl, hb2⟩
  rw [short_nil]
  go_wp2_with (go_at_call 6; refine (hp6 _ _ _ (by decide) (by decide)).mono ?_; rintro e w3 ⟨rfl, n3, rfl⟩)
  go_ret
  exact ⟨rfl, below_drewN (hb1.trans (hb2.mono hb1.size)) _⟩

/-- The rest of the walk behind the two ways to the full tag; t: the full tag. -/
theorem facts (t : ByteArray) : (t.toList.isEmpty = true ∧ (t.toList == [33]) = false ∧ pre core t = false ∧ pre ⟨#[33, 33]⟩ t = false) ∨ (t.toList.isEmpty = false ∧ (t.toList == [33]) = true ∧ pre core t = false ∧ pre ⟨#[33, 33]⟩ t = false) ∨
    (t.toList.isEmpty = false ∧ (t.toList == [33]) = false ∧ pre core t = true ∧ pre ⟨#[33, 33]⟩ t = false) ∨ (t.toList.isEmpty = false ∧ (t.toList == [33]) = false ∧ pre core t = false ∧ pre ⟨#[33, 33]⟩ t = true) ∨ (t.toList.isEmpty = false ∧ (t.toList == [33]) = false ∧ pre core t = false ∧ pre ⟨#[33, 33]⟩ t = false) := by
  have e1 : pre core t = coreL.isPrefixOf t.data.toList := rfl
  have e2 : pre ⟨#[33, 33]⟩ t = [33, 33].isPrefixOf t.data.toList := rfl
  rw [e1, e2, ByteArray.toList_eq]
  match t.data.toList with
  | [] => exact Or.inl ⟨rfl, rfl, rfl, rfl⟩
  | a :: r =>
    by_cases h : (a :: r) = [33]
    · rw [h]; exact Or.inr (Or.inl ⟨rfl, rfl, rfl, rfl⟩)
    · have h' : ((a :: r) == [33]) = false := by simpa using h
      cases hc : coreL.isPrefixOf (a :: r)
      · cases hd : [33, 33].isPrefixOf (a :: r)
        · exact Or.inr (Or.inr (Or.inr (Or.inr ⟨rfl, h', rfl, rfl⟩)))
        · exact Or.inr (Or.inr (Or.inr (Or.inl ⟨rfl, h', rfl, rfl⟩)))
      · refine Or.inr (Or.inr (Or.inl ⟨rfl, h', rfl, ?_⟩))
        simp [coreL, List.isPrefixOf] at hc ⊢
        intro h33
        rw [← h33] at hc
        exact absurd hc.1 (by decide)


set_option maxHeartbeats 3200000 in
theorem law4_bare (m : Option Nat) (tag : ByteArray) (L : Int) (w : World) (htz : tag.size ≤ 65536) (hL : L ≤ 65536)
    (hlen : ∀ ty, (Builtin.len_ #[22] ty #[.map m]).run Tryf.prog w = .ok (.int .i64 L) w) :
    Calls Tryf.prog 4 #[.map m, .bool true, .string tag, .string ⟨#[]⟩] w fun e w' => e = .returned (.bool true) ∧ Below w.heap.size w w' := by
  obtain ⟨f1, f2, f3⟩ := full_cases tag
  have hz := short_size tag
  rcases facts tag with ⟨g1, g2, g3, g4⟩ | ⟨g1, g2, g3, g4⟩ | ⟨g1, g2, g3, g4⟩ | ⟨g1, g2, g3, g4⟩ | ⟨g1, g2, g3, g4⟩
  all_goals
    unfold core at g3 f3
    rw [g3, g4] at f3
    rw [g1, g2] at f2
    go_enter Tryf.func4, Tryf.ntmps4
    go_wp2_with fail
    refine (zz5_bare _ _ _ (by omega)).mono ?_
    rintro e w1 ⟨rfl, hb1⟩
    clear hlen
    go_wp2_with fail
    refine (zz5_bare _ _ _ (by omega)).mono ?_
    rintro e w2 ⟨rfl, hb2⟩
    go_wp2_with (go_at_call 6; refine (hp6 _ _ _ (by omega) (by decide)).mono ?_; rintro e w3 ⟨rfl, n3, rfl⟩)
    go_ret
    exact ⟨rfl, below_drewN (hb1.trans (hb2.mono hb1.size)) _⟩

set_option maxHeartbeats 800000 in
theorem law4_absent (m : Option Nat) (tag hd px : ByteArray) (L : Int) (w : World) (htz : tag.size ≤ 65536) (hdz : hd.size ≤ 65536) (hL : L ≤ 65536) (hne : hd.toList.isEmpty = false) (hpz : px.size ≤ 9223372036854775807)
    (hlen : ∀ ty, (Builtin.len_ #[22] ty #[.map m]).run Tryf.prog w = .ok (.int .i64 L) w) (ok : Bool) (hok : ok = false ∨ (ok = true ∧ 65536 < px.size))
    (hl : (Instr.lookup 22 (.map m) (.string hd) true).run Tryf.prog w = .ok (.tuple #[.string px, .bool ok]) w) :
    Calls Tryf.prog 4 #[.map m, .bool true, .string tag, .string hd] w fun e w' => e = .returned (.bool true) ∧ w' = w := by
  rcases hok with rfl | ⟨rfl, hbig⟩
  all_goals
    go_enter Tryf.func4, Tryf.ntmps4
    go_wp2
    go_ret
    exact ⟨rfl, rfl⟩

set_option maxHeartbeats 3200000 in
theorem law4_handle (m : Option Nat) (tag hd px : ByteArray) (L : Int) (w : World) (htz : tag.size ≤ 65536) (hdz : hd.size ≤ 65536) (hL : L ≤ 65536) (hne : hd.toList.isEmpty = false) (hpz : px.size ≤ 65536)
    (hlen : ∀ ty, (Builtin.len_ #[22] ty #[.map m]).run Tryf.prog w = .ok (.int .i64 L) w)
    (hl : ∀ wx : World, Below w.heap.size w wx → (Instr.lookup 22 (.map m) (.string hd) true).run Tryf.prog wx = .ok (.tuple #[.string px, .bool true]) wx) :
    Calls Tryf.prog 4 #[.map m, .bool true, .string tag, .string hd] w fun e w' => e = .returned (.bool true) ∧ Below w.heap.size w w' := by
  obtain ⟨f1, f2, f3⟩ := full_cases (px ++ tag)
  have hz := short_size (px ++ tag)
  have hs : (px ++ tag).size = px.size + tag.size := ByteArray.size_append
  have hl0 := hl w (Below.refl _ _)
  have HL : Hid _ := hl
  clear hl
  rcases facts (px ++ tag) with ⟨g1, g2, g3, g4⟩ | ⟨g1, g2, g3, g4⟩ | ⟨g1, g2, g3, g4⟩ | ⟨g1, g2, g3, g4⟩ | ⟨g1, g2, g3, g4⟩
  all_goals
    unfold core at g3 f3
    rw [g3, g4] at f3
    rw [g1, g2] at f2
    go_enter Tryf.func4, Tryf.ntmps4
    go_wp2_with fail
    refine (zz5_handle _ _ _ px _ htz hpz hne HL.out).mono ?_
    rintro e w1 ⟨rfl, hb1⟩
    clear hlen HL hl0
    go_wp2_with fail
    refine (zz5_bare _ _ _ (by omega)).mono ?_
    rintro e w2 ⟨rfl, hb2⟩
    go_wp2_with fail
    refine (zz5_bare _ _ _ (by omega)).mono ?_
    rintro e w3 ⟨rfl, hb3⟩
    go_wp2_with (go_at_call 6; refine (hp6 _ _ _ (by omega) (by decide)).mono ?_; rintro e w3 ⟨rfl, n3, rfl⟩)
    go_ret
    exact ⟨rfl, below_drewN (hb1.trans ((hb2.mono hb1.size).trans (hb3.mono (Nat.le_trans hb1.size hb2.size)))) _⟩
end Go.Proofs.Qxb6609277aFmt
