import Derived.Test.Qxb6612282aSem
import Derived.ProofKit
import Derived.OpenShut
namespace Go.Proofs.Qxb6612282a
open Go.ChangeShapes Go.WideShapes Go.ChangeAt Go.RowKit
set_option linter.unusedVariables false
set_option linter.unusedSimpArgs false

theorem own : ownKnob Try.prog.godebug = none := by kernel_rfl

set_option maxHeartbeats 800000 in
theorem counts_early (n k : Int) (w : World) (h : 65536 < n ∨ (n ≤ 65536 ∧ k < 0) ∨ (n ≤ 65536 ∧ 0 ≤ k ∧ 65536 < k) ∨ (n ≤ 65536 ∧ 0 ≤ k ∧ k ≤ 65536 ∧ 0 ≤ n ∧ n < k)) :
    Calls Try.prog 3 #[.int .i64 n, .int .i64 k] w fun e w' => e = .returned (.bool true) ∧ w' = w := by
  rcases h with h | ⟨h1, h⟩ | ⟨h1, h2, h⟩ | ⟨h1, h2, h3, h4, h⟩
  all_goals
    go_enter Try.func3, Try.ntmps3
    go_wp2
    go_ret
    exact ⟨rfl, rfl⟩

set_option maxHeartbeats 1600000 in
set_option maxRecDepth 100000 in
theorem counts_neg (n : Int) (k : Nat) (w : World) (h1 : n < 0) (h2 : k ≤ 65536) :
    Calls Try.prog 3 #[.int .i64 n, .int .i64 k] w fun e w' => e = .returned (.bool true) ∧ Below w.heap.size w w' := by
  have hd : decide (0 ≤ n) = false := decide_eq_false (by omega)
  go_enter Try.func3, Try.ntmps3
  go_wp2_with fail
  refine (set5 w _ w.heap.size (.chan none) n (gr_new w _ rfl rfl) (by omega)).mono ?_
  rintro e w1 ⟨rfl, hL⟩
  go_wp2_with fail
  go_loopw [6] (fun i wr => ∃ j : Nat, j ≤ k ∧ i = .int .i64 j ∧ Lim w wr w.heap.size n j) (fun i _ => k - (intOf i).toNat)
  case atStart => exact ⟨0, Nat.zero_le _, rfl, hL⟩
  case round =>
    obtain ⟨j, hj, rfl, hJ⟩ := hrel
    by_cases hlt : j < k
    · go_wp2_with fail
      refine (take6 w wr w.heap.size n j hJ (Or.inl h1)).mono ?_
      rintro e w2 ⟨rfl, hJ2⟩
      go_wp2
      go_roundw
      case rel => exact ⟨j + 1, by omega, by go_num, hJ2⟩
      case measure => simp [intOf]; omega
    · go_wp2_with fail
      refine (has_no w wr w.heap.size n j hJ h1).mono ?_
      rintro e w2 ⟨rfl, rfl⟩
      go_wp2_with fail
      refine (len_no w wr w.heap.size n j hJ h1).mono ?_
      rintro e w2 ⟨rfl, rfl⟩
      go_wp2_with fail
      refine (cap_no w wr w.heap.size n j hJ h1).mono ?_
      rintro e w2 ⟨rfl, rfl⟩
      go_wp2_with fail
      go_ret
      exact ⟨rfl, (hJ.none h1).bel⟩

set_option maxHeartbeats 1600000 in
set_option maxRecDepth 100000 in
theorem counts_pos (n : Int) (k : Nat) (w : World) (h1 : 0 ≤ n) (h3 : n ≤ 65536) (h2 : (k : Int) ≤ n) :
    Calls Try.prog 3 #[.int .i64 n, .int .i64 k] w fun e w' => e = .returned (.bool true) ∧ Below w.heap.size w w' := by
  go_enter Try.func3, Try.ntmps3
  go_wp2_with fail
  refine (set5 w _ w.heap.size (.chan none) n (gr_new w _ rfl rfl) (by omega)).mono ?_
  rintro e w1 ⟨rfl, hL⟩
  go_wp2_with fail
  go_loopw [6] (fun i wr => ∃ j : Nat, j ≤ k ∧ i = .int .i64 j ∧ Lim w wr w.heap.size n j) (fun i _ => k - (intOf i).toNat)
  case atStart => exact ⟨0, Nat.zero_le _, rfl, hL⟩
  case round =>
    obtain ⟨j, hj, rfl, hJ⟩ := hrel
    by_cases hlt : j < k
    · go_wp2_with fail
      refine (take6 w wr w.heap.size n j hJ (Or.inr (by omega))).mono ?_
      rintro e w2 ⟨rfl, hJ2⟩
      go_wp2
      go_roundw
      case rel => exact ⟨j + 1, by omega, by go_num, hJ2⟩
      case measure => simp [intOf]; omega
    · obtain rfl : k = j := by omega
      obtain ⟨v, hv⟩ := hJ.gr
      have hB := hv.bel
      clear hv
      go_wp2_with fail
      refine (has_yes w wr w.heap.size n k hJ h1).mono ?_
      rintro e w2 ⟨rfl, rfl⟩
      go_wp2_with fail
      refine (len_yes w wr w.heap.size n k hJ h1).mono ?_
      rintro e w2 ⟨rfl, rfl⟩
      go_wp2_with fail
      refine (cap_yes w wr w.heap.size n k hJ h1).mono ?_
      rintro e w2 ⟨rfl, rfl⟩
      go_wp2_with fail
      go_ret
      exact ⟨rfl, hB⟩

theorem counts_all (n k : Int) (w : World) : Calls Try.prog 3 #[.int .i64 n, .int .i64 k] w fun e w' => e = .returned (.bool true) ∧ Below w.heap.size w w' := by
  by_cases h : 65536 < n ∨ (n ≤ 65536 ∧ k < 0) ∨ (n ≤ 65536 ∧ 0 ≤ k ∧ 65536 < k) ∨ (n ≤ 65536 ∧ 0 ≤ k ∧ k ≤ 65536 ∧ 0 ≤ n ∧ n < k)
  · exact (counts_early n k w h).mono fun e w' ⟨he, hw⟩ => ⟨he, hw ▸ Below.refl _ _⟩
  · obtain ⟨k', rfl⟩ := Int.eq_ofNat_of_zero_le (show 0 ≤ k by omega)
    by_cases h0 : n < 0
    · exact counts_neg n k' w h0 (by omega)
    · exact counts_pos n k' w (by omega) (by omega) (by omega)

set_option maxRecDepth 100000 in
theorem counts_lifted (os : Os) (started : os.Started) (H : Type) (enc : TypeId × Value → H) :
    ReturnsInHanded {} Try.checked os 3 .any (Rows.fnTakePlaceCountsPlacesSpec.pre6 enc Try.prog Try.f3 Rows.fnTakePlaceCountsPlacesRow.domain false) (Rows.fnTakePlaceCountsPlacesSpec.post enc Try.prog Try.f3 false true false false) := by
  refine returnsInHanded_of_change (C := Try.checked) own started (by kernel_rfl) Try.func3
    (ChangeSpec.witness6 (enc := enc) (C := Try.checked) false ⟨#[], #[.int .i64 0, .int .i64 0], []⟩ 8 (by kernel_rfl) (by kernel_rfl) (by kernel_rfl) (by kernel_rfl)) ?_
  intro W base args ds gs before hval0 hW hcnd _
  have hval : ∀ (j : Nat) t v, Try.f3.params[j]? = some t → args[j]? = some v → Value.okWide Try.prog W .any base t v := hval0
  have hW' := hW
  obtain ⟨p, q, hA0, hV, rfl, hfz, hnd⟩ := hW
  have hA : DataW.TrodAll enc Try.prog W 0 (fun _ => true) true Try.f3.params.toList args.toList ds p := hA0
  rw [Try.params3] at hA hval
  obtain ⟨v0, v1, d0, d1, p0, p1, rfl, rfl, rfl, h0, h1⟩ := trodAll_two hA
  obtain ⟨rfl, rfl⟩ := trodVars_none hV
  obtain ⟨n, rfl, rfl, rfl, wn⟩ := open_int Try.underlying3 (hval 0 3 v0 rfl rfl) h0
  obtain ⟨k, rfl, rfl, rfl, wk⟩ := open_int Try.underlying3 (hval 1 3 v1 rfl rfl) h1
  clear hA0 hval0
  simp only [List.append_nil] at hW'
  refine (counts_all n k W).mono fun e W' ⟨he, hB⟩ => ?_
  subst he
  refine ⟨_, rfl, _, _, _, [], [] ++ [], [], hW', ?_, ?_, rfl, hB.frame _, fun h => by cases h⟩
  · exact trodAll_mk1 (shut_bool Try.underlying4 _)
  · exact trodAll_mk2 (shut_int Try.underlying3 wn) (shut_int Try.underlying3 wk)

theorem counts_proved : Rows.FnTakePlaceCountsPlacesSaid :=
  OpenClaim.holds_of_wide 3 Try.f3 rfl rfl rfl rfl rfl rfl rfl ⟨rfl, rfl, rfl, rfl, rfl⟩ rfl rfl rfl rfl rfl (by kernel_rfl) Try.func3 (by kernel_rfl)
    (of_decide_eq_true (by kernel_rfl)) (by unfold Func.isWrapper; first | (rw [if_pos (by decide +kernel)]; kernel_rfl) | (rw [if_neg (by decide +kernel)]; exact ⟨rfl, rfl⟩))
    (fun os started H enc _ => counts_lifted os started H enc)
#print axioms counts_proved
end Go.Proofs.Qxb6612282a
