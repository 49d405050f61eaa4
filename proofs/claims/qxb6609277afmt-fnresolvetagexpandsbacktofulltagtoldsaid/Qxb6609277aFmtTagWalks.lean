import Derived.Test.Qxb6609277aFmtTagPlain
import Derived.WalkKit
import Derived.WalkSpells
import Derived.WalkLawsBesides
import Derived.Lib.Strings
import Derived.BigQuiet
namespace Go.Proofs.Qxb6609277aFmt
open Go.RowKit
set_option linter.unusedVariables false
set_option linter.unusedSimpArgs false

set_option maxHeartbeats 400000 in
theorem hasPrefix13 (s p : ByteArray) (w : World) (hs : s.size ≤ 1000000) (hp : p.size ≤ 1000000) :
    Calls Tryf.prog 13 #[.string s, .string p] w fun e w' => e = .returned (.bool (pre p s)) ∧ w' = w := by
  by_cases h : p.size ≤ s.size
  · go_enter Tryf.func13, Tryf.ntmps13
    go_wp2
    go_ret
    exact ⟨congrArg (fun b => Ending.returned (.bool b)) (pre_yes h), rfl⟩
  · go_enter Tryf.func13, Tryf.ntmps13
    go_wp2
    go_ret
    exact ⟨by rw [pre_no h]; rfl, rfl⟩

set_option maxHeartbeats 400000 in
theorem cutPrefix12 (s p : ByteArray) (w : World) (hs : s.size ≤ 1000000) (hp : p.size ≤ 1000000) :
    Calls Tryf.prog 12 #[.string s, .string p] w fun e w' => e = .returned (.tuple #[.string (cutPre p s), .bool (pre p s)]) ∧ w' = w := by
  cases h : pre p s with
  | true =>
    have hz := pre_size h
    go_enter Tryf.func12, Tryf.ntmps12
    go_wp2_with (go_at_call 13; refine (hasPrefix13 _ _ _ hs hp).mono ?_; rintro e w' ⟨rfl, rfl⟩)
    go_ret2
    exact ⟨by rw [cutPre_yes h]; rfl, rfl⟩
  | false =>
    go_enter Tryf.func12, Tryf.ntmps12
    go_wp2_with (go_at_call 13; refine (hasPrefix13 _ _ _ hs hp).mono ?_; rintro e w' ⟨rfl, rfl⟩)
    go_ret2
    exact ⟨by rw [cutPre_no h]; rfl, rfl⟩

set_option maxHeartbeats 400000 in
theorem cutPrefix10 (s p : ByteArray) (w : World) (hs : s.size ≤ 1000000) (hp : p.size ≤ 1000000) :
    Calls Tryf.prog 10 #[.string s, .string p] w fun e w' => e = .returned (.tuple #[.string (cutPre p s), .bool (pre p s)]) ∧ w' = w := by
  go_enter Tryf.func10, Tryf.ntmps10
  go_wp2_with (go_at_call 12; refine (cutPrefix12 _ _ _ hs hp).mono ?_; rintro e w' ⟨rfl, rfl⟩)
  go_ret2
  exact ⟨rfl, rfl⟩


set_option maxHeartbeats 400000 in
theorem resolve8_none (a : Addr) (tag hd : ByteArray) (w : World) :
    Calls Tryf.prog 8 #[.pointer (some a), .agg #[.int .i64 0, .int .i64 0, .string ⟨#[]⟩, .bool false, .string tag, .bool false, .string hd, .int .i64 0, .int .i64 0]] w fun e w' => e = .returned (.string ⟨#[]⟩) ∧ Below w.heap.size w w' := by
  go_enter Tryf.func8, Tryf.ntmps8
  go_wp2
  go_ret
  exact ⟨rfl, (Below.refl _ _).alloc (Nat.le_refl _) _⟩

set_option maxHeartbeats 400000 in
theorem resolve8_bare (a : Addr) (tag : ByteArray) (w : World) (ht : tag.size ≤ 900000) :
    Calls Tryf.prog 8 #[.pointer (some a), .agg #[.int .i64 0, .int .i64 0, .string ⟨#[]⟩, .bool false, .string tag, .bool true, .string ⟨#[]⟩, .int .i64 0, .int .i64 0]] w fun e w' => e = .returned (.string (short tag)) ∧ Below w.heap.size w w' := by
  have hcz := cutPre_size ⟨#[116, 97, 103, 58, 121, 97, 109, 108, 46, 111, 114, 103, 44, 50, 48, 48, 50, 58]⟩ tag
  go_enter Tryf.func8, Tryf.ntmps8
  go_wp2_with (go_at_call 10; refine (cutPrefix10 _ _ _ (by omega) (by decide)).mono ?_; rintro e w' ⟨rfl, rfl⟩)
  · go_ret
    exact ⟨congrArg (fun b => Ending.returned (.string b)) (short_core ‹_›).symm, (Below.refl _ _).alloc (Nat.le_refl _) _⟩
  · go_ret
    exact ⟨congrArg (fun b => Ending.returned (.string b)) (short_one ‹_› ‹_›).symm, (Below.refl _ _).alloc (Nat.le_refl _) _⟩
  · go_ret
    exact ⟨congrArg (fun b => Ending.returned (.string b)) (short_else ‹_› ‹_›).symm, (Below.refl _ _).alloc (Nat.le_refl _) _⟩

set_option maxHeartbeats 400000 in
theorem resolve8_handle (pb : Nat) (m : Option Nat) (tag hd px : ByteArray) (w : World) (hpb : pb < w.heap.size) (hm : w.cell? ⟨pb, 17, none⟩ = some (.map m)) (ht : tag.size ≤ 65536) (hpx : px.size ≤ 65536) (hne : hd.toList.isEmpty = false)
    (hl : ∀ (o : Obj), (Instr.lookup 22 (.map m) (.string hd) true).run Tryf.prog (w.alloc o).drew = .ok (.tuple #[.string px, .bool true]) (w.alloc o).drew) :
    Calls Tryf.prog 8 #[.pointer (some ⟨pb, 0, none⟩), .agg #[.int .i64 0, .int .i64 0, .string ⟨#[]⟩, .bool false, .string tag, .bool true, .string hd, .int .i64 0, .int .i64 0]] w fun e w' => e = .returned (.string (short (px ++ tag))) ∧ Below w.heap.size w w' := by
  have hcz := cutPre_size ⟨#[116, 97, 103, 58, 121, 97, 109, 108, 46, 111, 114, 103, 44, 50, 48, 48, 50, 58]⟩ (px ++ tag)
  have hz : (px ++ tag).size = px.size + tag.size := ByteArray.size_append
  go_enter Tryf.func8, Tryf.ntmps8
  go_wp2
  go_region
  go_wp2_with (go_at_call 10; refine (cutPrefix10 _ _ _ (by omega) (by decide)).mono ?_; rintro e w' ⟨rfl, rfl⟩)
  · go_ret
    exact ⟨congrArg (fun b => Ending.returned (.string b)) (short_core ‹_›).symm, ((Below.refl _ _).alloc (Nat.le_refl _) _).drew⟩
  · go_ret
    exact ⟨congrArg (fun b => Ending.returned (.string b)) (short_one ‹_› ‹_›).symm, ((Below.refl _ _).alloc (Nat.le_refl _) _).drew⟩
  · go_ret
    exact ⟨congrArg (fun b => Ending.returned (.string b)) (short_else ‹_› ‹_›).symm, ((Below.refl _ _).alloc (Nat.le_refl _) _).drew⟩

set_option maxHeartbeats 400000 in
theorem zz5_none (m : Option Nat) (tag hd : ByteArray) (w : World) :
    Calls Tryf.prog 5 #[.map m, .bool false, .string tag, .string hd] w fun e w' => e = .returned (.string ⟨#[]⟩) ∧ Below w.heap.size w w' := by
  go_enter Tryf.func5, Tryf.ntmps5
  go_wp2_with (go_at_call 8; refine (resolve8_none _ _ _ _).mono ?_; rintro e w' ⟨rfl, hb⟩)
  go_ret
  exact ⟨rfl, ((Below.refl _ _).alloc (Nat.le_refl _) _).trans (hb.mono (by simp))⟩

set_option maxHeartbeats 400000 in
theorem zz5_bare (m : Option Nat) (tag : ByteArray) (w : World) (ht : tag.size ≤ 900000) :
    Calls Tryf.prog 5 #[.map m, .bool true, .string tag, .string ⟨#[]⟩] w fun e w' => e = .returned (.string (short tag)) ∧ Below w.heap.size w w' := by
  go_enter Tryf.func5, Tryf.ntmps5
  go_wp2_with (go_at_call 8; refine (resolve8_bare _ _ _ ht).mono ?_; rintro e w' ⟨rfl, hb⟩)
  go_ret
  exact ⟨rfl, ((Below.refl _ _).alloc (Nat.le_refl _) _).trans (hb.mono (by simp))⟩

set_option maxHeartbeats 400000 in
theorem zz5_handle (m : Option Nat) (tag hd px : ByteArray) (w : World) (ht : tag.size ≤ 65536) (hpx : px.size ≤ 65536) (hne : hd.toList.isEmpty = false)
    (hl : ∀ wx : World, Below w.heap.size w wx → (Instr.lookup 22 (.map m) (.string hd) true).run Tryf.prog wx = .ok (.tuple #[.string px, .bool true]) wx) :
    Calls Tryf.prog 5 #[.map m, .bool true, .string tag, .string hd] w fun e w' => e = .returned (.string (short (px ++ tag))) ∧ Below w.heap.size w w' := by
  have hl2 : ∀ o1 o2 : Obj, (Instr.lookup 22 (.map m) (.string hd) true).run Tryf.prog ((w.alloc o1).alloc o2).drew = .ok (.tuple #[.string px, .bool true]) ((w.alloc o1).alloc o2).drew :=
    fun o1 o2 => hl _ ((((Below.refl _ _).alloc (Nat.le_refl _) _).alloc (by simp) _).drew)
  have HL : Hid _ := hl2
  clear hl hl2
  go_enter Tryf.func5, Tryf.ntmps5
  go_wp2_with fail
  refine (resolve8_handle _ m tag hd px _ (by simp) (by simp) ht hpx hne (HL.out _)).mono ?_
  rintro e w' ⟨rfl, hb⟩
  go_wp2
  go_ret
  exact ⟨rfl, ((Below.refl _ _).alloc (Nat.le_refl _) _).trans (hb.mono (by simp))⟩

set_option maxHeartbeats 400000 in
theorem hp6 (s p : ByteArray) (w : World) (hs : s.size ≤ 1000000) (hp : p.size ≤ 1000000) :
    Calls Tryf.prog 6 #[.string s, .string p] w fun e w' => e = .returned (.bool (pre p s)) ∧ ∃ n, w' = w.drewN n := by
  by_cases hsz : s.size < p.size
  · go_enter Tryf.func6, Tryf.ntmps6
    go_wp2
    go_ret
    exact ⟨congrArg (fun b => Ending.returned (.bool b)) (pre_no (by omega)).symm, 0, rfl⟩
  · go_enter Tryf.func6, Tryf.ntmps6
    go_wp2
    go_loopw [5] (fun i wr => ∃ k n : Nat, k ≤ p.size ∧ i = .int .i64 k ∧ Hid (p.data.toList.take k = s.data.toList.take k) ∧ wr = w.drewN n) (fun i _ => p.size - (intOf i).toNat)
    case atStart => exact ⟨0, 0, Nat.zero_le _, rfl, rfl, rfl⟩
    case round =>
      obtain ⟨k, n, hk, rfl, HT, rfl⟩ := hrel
      by_cases hlt : k < p.size
      · have hlt2 : k < s.size := by omega
        go_wp2
        go_quiet (fail)
        go_wp2
        · go_ret
          refine ⟨congrArg (fun b => Ending.returned (.bool b)) (pre_differ hlt hlt2 (byte_ne ‹_›)).symm, _, World.drewN_drewN _ _ _⟩
        · go_roundw
          case rel => exact ⟨k + 1, _, by omega, by go_num, take_next hlt hlt2 HT (byte_eq ‹_›), rfl⟩
          case measure => simp [intOf]; omega
      · go_wp2
        go_ret
        exact ⟨congrArg (fun b => Ending.returned (.bool b)) (pre_all (by have := HT.out; rwa [show k = p.size by omega] at this)).symm, n, rfl⟩

set_option maxHeartbeats 400000 in
theorem expand7 (s : ByteArray) (w : World) (hs : s.size ≤ 1000000) :
    Calls Tryf.prog 7 #[.string s] w fun e w' => e = .returned (.string (expand s)) ∧ w' = w := by
  go_enter Tryf.func7, Tryf.ntmps7
  go_wp2
  · go_ret
    exact ⟨congrArg (fun b => Ending.returned (.string b)) (expand_yes (by omega) ‹_› ‹_›).symm, rfl⟩
  · go_ret
    exact ⟨congrArg (fun b => Ending.returned (.string b)) (expand_no1 (by omega) ‹_›).symm, rfl⟩
  · go_ret
    exact ⟨congrArg (fun b => Ending.returned (.string b)) (expand_no0 (by omega) ‹_›).symm, rfl⟩
  · go_ret
    exact ⟨congrArg (fun b => Ending.returned (.string b)) (expand_short ‹_›).symm, rfl⟩
end Go.Proofs.Qxb6609277aFmt
