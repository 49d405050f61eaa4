import Derived.Test.Qxb6612282aSem
import Derived.ProofKit
import Derived.OpenShut
namespace Go.Proofs.Qxb6612282a
open Go.ChangeShapes Go.WideShapes Go.ChangeAt Go.RowKit
set_option linter.unusedVariables false
set_option linter.unusedSimpArgs false

theorem own4 : ownKnob Try.prog.godebug = none := by kernel_rfl

set_option maxHeartbeats 1600000 in
theorem new_early (n1 k1 n2 k2 : Int) (w : World) (h : 65536 < n1 ∨ (n1 ≤ 65536 ∧ 65536 < n2) ∨ (n1 ≤ 65536 ∧ n2 ≤ 65536 ∧ k1 < 0) ∨ (n1 ≤ 65536 ∧ n2 ≤ 65536 ∧ 0 ≤ k1 ∧ 65536 < k1) ∨ (n1 ≤ 65536 ∧ n2 ≤ 65536 ∧ 0 ≤ k1 ∧ k1 ≤ 65536 ∧ k2 < 0) ∨ (n1 ≤ 65536 ∧ n2 ≤ 65536 ∧ 0 ≤ k1 ∧ k1 ≤ 65536 ∧ 0 ≤ k2 ∧ 65536 < k2)) :
    Calls Try.prog 4 #[.int .i64 n1, .int .i64 k1, .int .i64 n2, .int .i64 k2] w fun e w' => e = .returned (.bool true) ∧ w' = w := by
  rcases h with h | ⟨h1, h⟩ | ⟨h1, h2, h⟩ | ⟨h1, h2, h3, h⟩ | ⟨h1, h2, h3, h4, h⟩ | ⟨h1, h2, h3, h4, h5, h⟩
  all_goals
    go_enter Try.func4, Try.ntmps4
    go_wp2
    go_ret
    exact ⟨rfl, rfl⟩
set_option maxHeartbeats 1600000 in
theorem new_early2 (n1 k1 n2 k2 : Int) (w : World) (h1 : n1 ≤ 65536) (h2 : n2 ≤ 65536) (h3 : 0 ≤ k1) (h4 : k1 ≤ 65536) (h5 : 0 ≤ k2) (h6 : k2 ≤ 65536)
    (h : (0 ≤ n1 ∧ n1 < k1) ∨ (n1 < 0 ∧ 0 ≤ n2 ∧ n2 < k2) ∨ (0 ≤ n1 ∧ k1 ≤ n1 ∧ 0 ≤ n2 ∧ n2 < k2)) :
    Calls Try.prog 4 #[.int .i64 n1, .int .i64 k1, .int .i64 n2, .int .i64 k2] w fun e w' => e = .returned (.bool true) ∧ w' = w := by
  rcases h with ⟨g1, g2⟩ | ⟨g1, g2, g3⟩ | ⟨g1, g2, g3, g4⟩
  · go_enter Try.func4, Try.ntmps4
    go_wp2
    go_ret
    exact ⟨rfl, rfl⟩
  · have hd : decide (0 ≤ n1) = false := decide_eq_false (by omega)
    go_enter Try.func4, Try.ntmps4
    go_wp2
    go_ret
    exact ⟨rfl, rfl⟩
  · go_enter Try.func4, Try.ntmps4
    go_wp2
    go_ret
    exact ⟨rfl, rfl⟩

set_option maxHeartbeats 1600000 in
set_option maxRecDepth 100000 in
theorem new_nn (n1 n2 : Int) (k1 k2 : Nat) (w : World) (h1 : n1 < 0) (h2 : n2 < 0) (hk1 : k1 ≤ 65536) (hk2 : k2 ≤ 65536) :
    Calls Try.prog 4 #[.int .i64 n1, .int .i64 k1, .int .i64 n2, .int .i64 k2] w fun e w' => e = .returned (.bool true) ∧ Below w.heap.size w w' := by
  have hd1 : decide (0 ≤ n1) = false := decide_eq_false (by omega)
  have hd2 : decide (0 ≤ n2) = false := decide_eq_false (by omega)
  go_enter Try.func4, Try.ntmps4
  go_wp2_with fail
  refine (set5 w _ w.heap.size (.chan none) n1 (gr_new w _ rfl rfl) (by omega)).mono ?_
  rintro e w1 ⟨rfl, hL⟩
  go_wp2_with fail
  go_loopw [10] (fun i wr => ∃ j : Nat, j ≤ k1 ∧ i = .int .i64 j ∧ Lim w wr w.heap.size n1 j) (fun i _ => k1 - (intOf i).toNat)
  case atStart => exact ⟨0, Nat.zero_le _, rfl, hL⟩
  case round =>
    obtain ⟨j, hj, rfl, hJ⟩ := hrel
    by_cases hlt : j < k1
    · go_wp2_with fail
      refine (take6 w wr w.heap.size n1 j hJ (Or.inl h1)).mono ?_
      rintro e w2 ⟨rfl, hJ2⟩
      go_wp2
      go_roundw
      case rel => exact ⟨j + 1, by omega, by go_num, hJ2⟩
      case measure => simp [intOf]; omega
    · obtain ⟨v, hv⟩ := hJ.gr
      clear hL hJ
      go_wp2_with fail
      refine (set5 w wr w.heap.size v n2 hv (by omega)).mono ?_
      rintro e w2 ⟨rfl, hM⟩
      clear hv
      go_wp2_with fail
      refine (len_no w w2 w.heap.size n2 0 hM h2).mono ?_
      rintro e w3 ⟨rfl, rfl⟩
      go_wp2_with fail
      go_loopw [12] (fun i wr => ∃ j : Nat, j ≤ k2 ∧ i = .int .i64 j ∧ Lim w wr w.heap.size n2 j) (fun i _ => k2 - (intOf i).toNat)
      case atStart => exact ⟨0, Nat.zero_le _, rfl, hM⟩
      case round =>
        obtain ⟨j2, hj2, rfl, hJ2⟩ := hrel
        by_cases hlt2 : j2 < k2
        · go_wp2_with fail
          refine (take6 w wr w.heap.size n2 j2 hJ2 (Or.inl h2)).mono ?_
          rintro e w4 ⟨rfl, hJ3⟩
          go_wp2
          go_roundw
          case rel => exact ⟨j2 + 1, by omega, by go_num, hJ3⟩
          case measure => simp [intOf]; omega
        obtain rfl : k2 = j2 := by omega
        obtain ⟨v2, hv2⟩ := hJ2.gr
        have hB := hv2.bel
        clear hv2 hM
        go_wp2_with fail
        refine (has_no w wr w.heap.size n2 k2 hJ2 h2).mono ?_
        rintro e w5 ⟨rfl, rfl⟩
        go_wp2_with fail
        refine (len_no w wr w.heap.size n2 k2 hJ2 h2).mono ?_
        rintro e w5 ⟨rfl, rfl⟩
        go_wp2_with fail
        go_ret
        exact ⟨rfl, hB⟩

set_option maxHeartbeats 1600000 in
set_option maxRecDepth 100000 in
theorem new_np (n1 n2 : Int) (k1 k2 : Nat) (w : World) (h1 : n1 < 0) (h2 : 0 ≤ n2) (g2 : n2 ≤ 65536) (e2 : (k2 : Int) ≤ n2) (hk1 : k1 ≤ 65536) (hk2 : k2 ≤ 65536) :
    Calls Try.prog 4 #[.int .i64 n1, .int .i64 k1, .int .i64 n2, .int .i64 k2] w fun e w' => e = .returned (.bool true) ∧ Below w.heap.size w w' := by
  have hd1 : decide (0 ≤ n1) = false := decide_eq_false (by omega)
  go_enter Try.func4, Try.ntmps4
  go_wp2_with fail
  refine (set5 w _ w.heap.size (.chan none) n1 (gr_new w _ rfl rfl) (by omega)).mono ?_
  rintro e w1 ⟨rfl, hL⟩
  go_wp2_with fail
  go_loopw [10] (fun i wr => ∃ j : Nat, j ≤ k1 ∧ i = .int .i64 j ∧ Lim w wr w.heap.size n1 j) (fun i _ => k1 - (intOf i).toNat)
  case atStart => exact ⟨0, Nat.zero_le _, rfl, hL⟩
  case round =>
    obtain ⟨j, hj, rfl, hJ⟩ := hrel
    by_cases hlt : j < k1
    · go_wp2_with fail
      refine (take6 w wr w.heap.size n1 j hJ (Or.inl h1)).mono ?_
      rintro e w2 ⟨rfl, hJ2⟩
      go_wp2
      go_roundw
      case rel => exact ⟨j + 1, by omega, by go_num, hJ2⟩
      case measure => simp [intOf]; omega
    · obtain ⟨v, hv⟩ := hJ.gr
      clear hL hJ
      go_wp2_with fail
      refine (set5 w wr w.heap.size v n2 hv (by omega)).mono ?_
      rintro e w2 ⟨rfl, hM⟩
      clear hv
      go_wp2_with fail
      refine (len_yes w w2 w.heap.size n2 0 hM h2).mono ?_
      rintro e w3 ⟨rfl, rfl⟩
      go_wp2_with fail
      go_loopw [12] (fun i wr => ∃ j : Nat, j ≤ k2 ∧ i = .int .i64 j ∧ Lim w wr w.heap.size n2 j) (fun i _ => k2 - (intOf i).toNat)
      case atStart => exact ⟨0, Nat.zero_le _, rfl, hM⟩
      case round =>
        obtain ⟨j2, hj2, rfl, hJ2⟩ := hrel
        by_cases hlt2 : j2 < k2
        · go_wp2_with fail
          refine (take6 w wr w.heap.size n2 j2 hJ2 (Or.inr (by omega))).mono ?_
          rintro e w4 ⟨rfl, hJ3⟩
          go_wp2
          go_roundw
          case rel => exact ⟨j2 + 1, by omega, by go_num, hJ3⟩
          case measure => simp [intOf]; omega
        obtain rfl : k2 = j2 := by omega
        obtain ⟨v2, hv2⟩ := hJ2.gr
        have hB := hv2.bel
        clear hv2 hM
        go_wp2_with fail
        refine (has_yes w wr w.heap.size n2 k2 hJ2 h2).mono ?_
        rintro e w5 ⟨rfl, rfl⟩
        go_wp2_with fail
        refine (cap_yes w wr w.heap.size n2 k2 hJ2 h2).mono ?_
        rintro e w5 ⟨rfl, rfl⟩
        go_wp2_with fail
        refine (len_yes w wr w.heap.size n2 k2 hJ2 h2).mono ?_
        rintro e w5 ⟨rfl, rfl⟩
        go_wp2_with fail
        go_ret
        exact ⟨rfl, hB⟩

set_option maxHeartbeats 1600000 in
set_option maxRecDepth 100000 in
theorem new_pn (n1 n2 : Int) (k1 k2 : Nat) (w : World) (h1 : 0 ≤ n1) (g1 : n1 ≤ 65536) (e1 : (k1 : Int) ≤ n1) (h2 : n2 < 0) (hk1 : k1 ≤ 65536) (hk2 : k2 ≤ 65536) :
    Calls Try.prog 4 #[.int .i64 n1, .int .i64 k1, .int .i64 n2, .int .i64 k2] w fun e w' => e = .returned (.bool true) ∧ Below w.heap.size w w' := by
  have hd2 : decide (0 ≤ n2) = false := decide_eq_false (by omega)
  go_enter Try.func4, Try.ntmps4
  go_wp2_with fail
  refine (set5 w _ w.heap.size (.chan none) n1 (gr_new w _ rfl rfl) (by omega)).mono ?_
  rintro e w1 ⟨rfl, hL⟩
  go_wp2_with fail
  go_loopw [10] (fun i wr => ∃ j : Nat, j ≤ k1 ∧ i = .int .i64 j ∧ Lim w wr w.heap.size n1 j) (fun i _ => k1 - (intOf i).toNat)
  case atStart => exact ⟨0, Nat.zero_le _, rfl, hL⟩
  case round =>
    obtain ⟨j, hj, rfl, hJ⟩ := hrel
    by_cases hlt : j < k1
    · go_wp2_with fail
      refine (take6 w wr w.heap.size n1 j hJ (Or.inr (by omega))).mono ?_
      rintro e w2 ⟨rfl, hJ2⟩
      go_wp2
      go_roundw
      case rel => exact ⟨j + 1, by omega, by go_num, hJ2⟩
      case measure => simp [intOf]; omega
    · obtain ⟨v, hv⟩ := hJ.gr
      clear hL hJ
      go_wp2_with fail
      refine (set5 w wr w.heap.size v n2 hv (by omega)).mono ?_
      rintro e w2 ⟨rfl, hM⟩
      clear hv
      go_wp2_with fail
      refine (len_no w w2 w.heap.size n2 0 hM h2).mono ?_
      rintro e w3 ⟨rfl, rfl⟩
      go_wp2_with fail
      go_loopw [12] (fun i wr => ∃ j : Nat, j ≤ k2 ∧ i = .int .i64 j ∧ Lim w wr w.heap.size n2 j) (fun i _ => k2 - (intOf i).toNat)
      case atStart => exact ⟨0, Nat.zero_le _, rfl, hM⟩
      case round =>
        obtain ⟨j2, hj2, rfl, hJ2⟩ := hrel
        by_cases hlt2 : j2 < k2
        · go_wp2_with fail
          refine (take6 w wr w.heap.size n2 j2 hJ2 (Or.inl h2)).mono ?_
          rintro e w4 ⟨rfl, hJ3⟩
          go_wp2
          go_roundw
          case rel => exact ⟨j2 + 1, by omega, by go_num, hJ3⟩
          case measure => simp [intOf]; omega
        obtain rfl : k2 = j2 := by omega
        obtain ⟨v2, hv2⟩ := hJ2.gr
        have hB := hv2.bel
        clear hv2 hM
        go_wp2_with fail
        refine (has_no w wr w.heap.size n2 k2 hJ2 h2).mono ?_
        rintro e w5 ⟨rfl, rfl⟩
        go_wp2_with fail
        refine (len_no w wr w.heap.size n2 k2 hJ2 h2).mono ?_
        rintro e w5 ⟨rfl, rfl⟩
        go_wp2_with fail
        go_ret
        exact ⟨rfl, hB⟩

set_option maxHeartbeats 1600000 in
set_option maxRecDepth 100000 in
theorem new_pp (n1 n2 : Int) (k1 k2 : Nat) (w : World) (h1 : 0 ≤ n1) (g1 : n1 ≤ 65536) (e1 : (k1 : Int) ≤ n1) (h2 : 0 ≤ n2) (g2 : n2 ≤ 65536) (e2 : (k2 : Int) ≤ n2) (hk1 : k1 ≤ 65536) (hk2 : k2 ≤ 65536) :
    Calls Try.prog 4 #[.int .i64 n1, .int .i64 k1, .int .i64 n2, .int .i64 k2] w fun e w' => e = .returned (.bool true) ∧ Below w.heap.size w w' := by
  go_enter Try.func4, Try.ntmps4
  go_wp2_with fail
  refine (set5 w _ w.heap.size (.chan none) n1 (gr_new w _ rfl rfl) (by omega)).mono ?_
  rintro e w1 ⟨rfl, hL⟩
  go_wp2_with fail
  go_loopw [10] (fun i wr => ∃ j : Nat, j ≤ k1 ∧ i = .int .i64 j ∧ Lim w wr w.heap.size n1 j) (fun i _ => k1 - (intOf i).toNat)
  case atStart => exact ⟨0, Nat.zero_le _, rfl, hL⟩
  case round =>
    obtain ⟨j, hj, rfl, hJ⟩ := hrel
    by_cases hlt : j < k1
    · go_wp2_with fail
      refine (take6 w wr w.heap.size n1 j hJ (Or.inr (by omega))).mono ?_
      rintro e w2 ⟨rfl, hJ2⟩
      go_wp2
      go_roundw
      case rel => exact ⟨j + 1, by omega, by go_num, hJ2⟩
      case measure => simp [intOf]; omega
    · obtain ⟨v, hv⟩ := hJ.gr
      clear hL hJ
      go_wp2_with fail
      refine (set5 w wr w.heap.size v n2 hv (by omega)).mono ?_
      rintro e w2 ⟨rfl, hM⟩
      clear hv
      go_wp2_with fail
      refine (len_yes w w2 w.heap.size n2 0 hM h2).mono ?_
      rintro e w3 ⟨rfl, rfl⟩
      go_wp2_with fail
      go_loopw [12] (fun i wr => ∃ j : Nat, j ≤ k2 ∧ i = .int .i64 j ∧ Lim w wr w.heap.size n2 j) (fun i _ => k2 - (intOf i).toNat)
      case atStart => exact ⟨0, Nat.zero_le _, rfl, hM⟩
      case round =>
        obtain ⟨j2, hj2, rfl, hJ2⟩ := hrel
        by_cases hlt2 : j2 < k2
        · go_wp2_with fail
          refine (take6 w wr w.heap.size n2 j2 hJ2 (Or.inr (by omega))).mono ?_
          rintro e w4 ⟨rfl, hJ3⟩
          go_wp2
          go_roundw
          case rel => exact ⟨j2 + 1, by omega, by go_num, hJ3⟩
          case measure => simp [intOf]; omega
        obtain rfl : k2 = j2 := by omega
        obtain ⟨v2, hv2⟩ := hJ2.gr
        have hB := hv2.bel
        clear hv2 hM
        go_wp2_with fail
        refine (has_yes w wr w.heap.size n2 k2 hJ2 h2).mono ?_
        rintro e w5 ⟨rfl, rfl⟩
        go_wp2_with fail
        refine (cap_yes w wr w.heap.size n2 k2 hJ2 h2).mono ?_
        rintro e w5 ⟨rfl, rfl⟩
        go_wp2_with fail
        refine (len_yes w wr w.heap.size n2 k2 hJ2 h2).mono ?_
        rintro e w5 ⟨rfl, rfl⟩
        go_wp2_with fail
        go_ret
        exact ⟨rfl, hB⟩

theorem new_all (n1 k1 n2 k2 : Int) (w : World) : Calls Try.prog 4 #[.int .i64 n1, .int .i64 k1, .int .i64 n2, .int .i64 k2] w fun e w' => e = .returned (.bool true) ∧ Below w.heap.size w w' := by
  by_cases h : 65536 < n1 ∨ (n1 ≤ 65536 ∧ 65536 < n2) ∨ (n1 ≤ 65536 ∧ n2 ≤ 65536 ∧ k1 < 0) ∨ (n1 ≤ 65536 ∧ n2 ≤ 65536 ∧ 0 ≤ k1 ∧ 65536 < k1) ∨ (n1 ≤ 65536 ∧ n2 ≤ 65536 ∧ 0 ≤ k1 ∧ k1 ≤ 65536 ∧ k2 < 0) ∨ (n1 ≤ 65536 ∧ n2 ≤ 65536 ∧ 0 ≤ k1 ∧ k1 ≤ 65536 ∧ 0 ≤ k2 ∧ 65536 < k2)
  · exact (new_early n1 k1 n2 k2 w h).mono fun e w' ⟨he, hw⟩ => ⟨he, hw ▸ Below.refl _ _⟩
  · by_cases h' : (0 ≤ n1 ∧ n1 < k1) ∨ (n1 < 0 ∧ 0 ≤ n2 ∧ n2 < k2) ∨ (0 ≤ n1 ∧ k1 ≤ n1 ∧ 0 ≤ n2 ∧ n2 < k2)
    · exact (new_early2 n1 k1 n2 k2 w (by omega) (by omega) (by omega) (by omega) (by omega) (by omega) h').mono fun e w' ⟨he, hw⟩ => ⟨he, hw ▸ Below.refl _ _⟩
    · obtain ⟨a, rfl⟩ := Int.eq_ofNat_of_zero_le (show 0 ≤ k1 by omega)
      obtain ⟨b, rfl⟩ := Int.eq_ofNat_of_zero_le (show 0 ≤ k2 by omega)
      by_cases h1 : n1 < 0
      · by_cases h2 : n2 < 0
        · exact new_nn n1 n2 a b w h1 h2 (by omega) (by omega)
        · exact new_np n1 n2 a b w h1 (by omega) (by omega) (by omega) (by omega) (by omega)
      · by_cases h2 : n2 < 0
        · exact new_pn n1 n2 a b w (by omega) (by omega) (by omega) h2 (by omega) (by omega)
        · exact new_pp n1 n2 a b w (by omega) (by omega) (by omega) (by omega) (by omega) (by omega) (by omega) (by omega)

set_option maxRecDepth 100000 in
theorem new_lifted (os : Os) (started : os.Started) (H : Type) (enc : TypeId × Value → H) :
    ReturnsInHanded {} Try.checked os 4 .any (Rows.fnTakePlaceNewLimitStartsEmptySpec.pre6 enc Try.prog Try.f4 Rows.fnTakePlaceNewLimitStartsEmptyRow.domain false) (Rows.fnTakePlaceNewLimitStartsEmptySpec.post enc Try.prog Try.f4 false true false false) := by
  refine returnsInHanded_of_change (C := Try.checked) own4 started (by kernel_rfl) Try.func4
    (ChangeSpec.witness6 (enc := enc) (C := Try.checked) false ⟨#[], #[.int .i64 0, .int .i64 0, .int .i64 0, .int .i64 0], []⟩ 8 (by kernel_rfl) (by kernel_rfl) (by kernel_rfl) (by kernel_rfl)) ?_
  intro W base args ds gs before hval0 hW hcnd _
  have hval : ∀ (j : Nat) t v, Try.f4.params[j]? = some t → args[j]? = some v → Value.okWide Try.prog W .any base t v := hval0
  have hW' := hW
  obtain ⟨p, q, hA0, hV, rfl, hfz, hnd⟩ := hW
  have hA : DataW.TrodAll enc Try.prog W 0 (fun _ => true) true Try.f4.params.toList args.toList ds p := hA0
  rw [Try.params4] at hA hval
  obtain ⟨v0, v1, v2, v3, d0, d1, d2, d3, p0, p1, p2, p3, rfl, rfl, rfl, h0, h1, h2, h3⟩ := trodAll_four hA
  obtain ⟨rfl, rfl⟩ := trodVars_none hV
  obtain ⟨n1, rfl, rfl, rfl, w0⟩ := open_int Try.underlying3 (hval 0 3 v0 rfl rfl) h0
  obtain ⟨k1, rfl, rfl, rfl, w1⟩ := open_int Try.underlying3 (hval 1 3 v1 rfl rfl) h1
  obtain ⟨n2, rfl, rfl, rfl, w2⟩ := open_int Try.underlying3 (hval 2 3 v2 rfl rfl) h2
  obtain ⟨k2, rfl, rfl, rfl, w3⟩ := open_int Try.underlying3 (hval 3 3 v3 rfl rfl) h3
  clear hA0 hval0
  simp only [List.append_nil] at hW'
  refine (new_all n1 k1 n2 k2 W).mono fun e W' ⟨he, hB⟩ => ?_
  subst he
  refine ⟨_, rfl, _, _, _, [], [] ++ ([] ++ ([] ++ [])), [], hW', ?_, ?_, rfl, hB.frame _, fun h => by cases h⟩
  · exact trodAll_mk1 (shut_bool Try.underlying4 _)
  · exact trodAll_mk4 (shut_int Try.underlying3 w0) (shut_int Try.underlying3 w1) (shut_int Try.underlying3 w2) (shut_int Try.underlying3 w3)

theorem new_proved : Rows.FnTakePlaceNewLimitStartsEmptySaid :=
  OpenClaim.holds_of_wide 4 Try.f4 rfl rfl rfl rfl rfl rfl rfl ⟨rfl, rfl, rfl, rfl, rfl⟩ rfl rfl rfl rfl rfl (by kernel_rfl) Try.func4 (by kernel_rfl)
    (of_decide_eq_true (by kernel_rfl)) (by unfold Func.isWrapper; first | (rw [if_pos (by decide +kernel)]; kernel_rfl) | (rw [if_neg (by decide +kernel)]; exact ⟨rfl, rfl⟩))
    (fun os started H enc _ => new_lifted os started H enc)
#print axioms new_proved
end Go.Proofs.Qxb6612282a
