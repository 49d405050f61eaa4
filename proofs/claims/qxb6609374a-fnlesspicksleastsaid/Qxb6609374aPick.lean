import Derived.Test.Qxb6609374aSortLaw
import Derived.Test.Qxb6609374aOpen
namespace Go.Proofs.Qxb6609374a
open Go.ChangeShapes Go.WideShapes Go.ChangeAt Go.RowKit Go.Deep
set_option linter.unusedVariables false
set_option linter.unusedSimpArgs false

/-! ### plain -/
/-- m: of the first k counters the first of the lowest. -/
structure Pick (F : Nat → Nat) (k m : Nat) : Prop where
  lt : m < k
  least : ∀ t, t < k → ¬ flt (F t) (F m)
  first : ∀ t, t < m → flt (F m) (F t)
theorem flt_irrefl (x : Nat) : ¬ flt x x := by unfold flt; omega
theorem pick_start (F : Nat → Nat) : Pick F 1 0 := by
  refine ⟨by omega, fun t ht => ?_, fun t ht => by omega⟩
  have e : t = 0 := by omega
  rw [e]
  exact flt_irrefl _
theorem Byc.drewN {w : World} {N n : Nat} {F : Nat → Nat} (h : Byc w N n F) (q : Nat) : Byc (w.drewN q) N n F := ⟨h.items, h.ten, h.box⟩
theorem pick_new {F : Nat → Nat} {k m : Nat} (h : Pick F k m) (hl : flt (F k) (F m)) : Pick F (k + 1) k := by
  refine ⟨by omega, fun t ht hc => ?_, fun t ht => ?_⟩
  · by_cases e : t = k
    · subst e; exact flt_irrefl _ hc
    · exact h.least t (by omega) (flt_trans hc hl)
  · rcases flt_total (F m) (F t) with h1 | h1 | h1
    · exact flt_trans hl h1
    · exact flt_feq hl h1
    · exact absurd h1 (h.least t ht)
theorem pick_old {F : Nat → Nat} {k m : Nat} (h : Pick F k m) (hl : ¬ flt (F k) (F m)) : Pick F (k + 1) m := by
  refine ⟨by have := h.lt; omega, fun t ht => ?_, h.first⟩
  by_cases e : t = k
  · subst e; exact hl
  · exact h.least t (by omega)
theorem pick_lss {F : Nat → Nat} {k m t : Nat} (h : Pick F k m) (ht : t < k) (h1 : ford (F t) (F t) = some .eq) (h2 : ford (F m) (F m) = some .eq) : (FloatKind.f64.format.order (F t) (F m) == some .lt) = false := by
  show (ford (F t) (F m) == some .lt) = false
  rw [Bool.eq_false_iff]
  exact fun hc => h.least t ht ((lss_iff h1 h2).1 hc)
theorem pick_eql {F : Nat → Nat} {k m t : Nat} (h : Pick F k m) (ht : t < m) (h1 : ford (F t) (F t) = some .eq) (h2 : ford (F m) (F m) = some .eq) : (FloatKind.f64.format.order (F t) (F m) == some .eq) = false := by
  show (ford (F t) (F m) == some .eq) = false
  rw [Bool.eq_false_iff]
  exact fun hc => flt_not_feq (h.first t ht) (feq_symm ((eql_iff h1 h2).1 hc))
/-- Of any two: exactly one. -/
theorem three_ways {x y : Nat} (h1 : ford x x = some .eq) (h2 : ford y y = some .eq) :
    ((FloatKind.f64.format.order x y == some .lt) = true ∧ (FloatKind.f64.format.order y x == some .lt) = false ∧ (FloatKind.f64.format.order x y == some .eq) = false) ∨
    ((FloatKind.f64.format.order x y == some .lt) = false ∧ (FloatKind.f64.format.order y x == some .lt) = true ∧ (FloatKind.f64.format.order x y == some .eq) = false) ∨
    ((FloatKind.f64.format.order x y == some .lt) = false ∧ (FloatKind.f64.format.order y x == some .lt) = false ∧ (FloatKind.f64.format.order x y == some .eq) = true) := by
  show ((ford x y == some .lt) = true ∧ (ford y x == some .lt) = false ∧ (ford x y == some .eq) = false) ∨ ((ford x y == some .lt) = false ∧ (ford y x == some .lt) = true ∧ (ford x y == some .eq) = false) ∨ ((ford x y == some .lt) = false ∧ (ford y x == some .lt) = false ∧ (ford x y == some .eq) = true)
  rcases ford_cases h1 h2 with ⟨e, h⟩ | ⟨e, h⟩ | ⟨e, h⟩
  · exact Or.inl ⟨by rw [e]; rfl, Bool.eq_false_iff.2 fun hc => flt_asymm h ((lss_iff h2 h1).1 hc), by rw [e]; rfl⟩
  · exact Or.inr (Or.inr ⟨by rw [e]; rfl, Bool.eq_false_iff.2 fun hc => flt_not_feq ((lss_iff h2 h1).1 hc) (feq_symm h), by rw [e]; rfl⟩)
  · exact Or.inr (Or.inl ⟨by rw [e]; rfl, (lss_iff h2 h1).2 h, by rw [e]; rfl⟩)

/-! ### walks -/
set_option maxHeartbeats 400000 in
theorem bytes10 (a : Option Addr) (n c : Nat) (i j : Int) (w : World) (hn : n ≤ 1048576) : Calls Try.prog 10 #[.slice a n c, .int .i64 i, .int .i64 j] w fun e w' => e = .returned (.bool true) ∧ w = w' := by
  go_enter Try.func10, Try.ntmps10
  go_wp2
  go_ret
  exact ⟨rfl, rfl⟩
set_option maxHeartbeats 400000 in
theorem bytes10_no (a : Option Addr) (n c : Nat) (i j : Int) (w : World) (hn : 1048576 < n) (hm : n ≤ 9223372036854775807) : Calls Try.prog 10 #[.slice a n c, .int .i64 i, .int .i64 j] w fun e w' => e = .returned (.bool false) ∧ w = w' := by
  go_enter Try.func10, Try.ntmps10
  go_wp2
  go_ret
  exact ⟨rfl, rfl⟩
set_option maxHeartbeats 400000 in
theorem pick_early (a : Option Addr) (n c : Nat) (i j : Int) (w : World) (hn : 65536 < n) (hm : n ≤ 9223372036854775807) : Calls Try.prog 4 #[.slice a n c, .int .i64 i, .int .i64 j] w fun e w' => e = .returned (.bool true) ∧ w' = w := by
  by_cases h : n ≤ 1048576
  · go_enter Try.func4, Try.ntmps4
    go_wp2_with (go_at_call 10; refine (bytes10 _ _ _ _ _ _ h).mono ?_; rintro e w' ⟨rfl, rfl⟩)
    go_ret
    exact ⟨rfl, rfl⟩
  · go_enter Try.func4, Try.ntmps4
    go_wp2_with (go_at_call 10; refine (bytes10_no _ _ _ _ _ _ (by omega) hm).mono ?_; rintro e w' ⟨rfl, rfl⟩)
    go_ret
    exact ⟨rfl, rfl⟩
set_option maxHeartbeats 400000 in
set_option maxRecDepth 100000 in
theorem pick_nil (i j : Int) (w : World) : Calls Try.prog 4 #[.slice none 0 0, .int .i64 i, .int .i64 j] w fun e w' => e = .returned (.bool true) ∧ w' = w := by
  by_cases h : i < 0
  all_goals
    go_enter Try.func4, Try.ntmps4
    go_wp2_with fail
    refine (bytes10 _ _ _ _ _ _ (by omega)).mono ?_
    rintro e w' ⟨rfl, rfl⟩
    go_wp2_with fail
    go_ret
    exact ⟨rfl, rfl⟩

set_option maxHeartbeats 1000000 in
set_option maxRecDepth 100000 in
theorem pick_out (ad : Addr) (n c : Nat) (i j : Int) (F : Nat → Nat) (w : World) (hn : n ≤ 65536) (hc : ∀ j, j < n → w.cell? (ad.add j) = some (.float .f64 (F j))) (hlt : 0 < n → ad.block < w.heap.size)
    (hij : i < 0 ∨ (0 ≤ i ∧ (n : Int) ≤ i) ∨ (0 ≤ i ∧ i < n ∧ j < 0) ∨ (0 ≤ i ∧ i < n ∧ 0 ≤ j ∧ (n : Int) ≤ j)) : Calls Try.prog 4 #[.slice (some ad) n c, .int .i64 i, .int .i64 j] w fun e w' => e = .returned (.bool true) ∧ Below w.heap.size w w' := by
  have hmk := run_make_row' (P := Try.prog) 22 24 (.float .f64 0) 8 Try.underlying22 Try.info24 rfl .i64 .i64 n (by omega) (by omega)
  have HS : Hid (∀ j v, (flts n F)[j]? = some v → (w.alloc (.cells (madeCells #[.float .f64 0] n) 24)).cell? (ad.add j) = some v) := by
    intro j v hj
    obtain ⟨hjn, rfl⟩ := flts_get n F j v hj
    rw [World.cell?_alloc_old _ _ _ (by have := hlt (by omega); rw [show (ad.add j).block = ad.block by unfold Addr.add; split <;> rfl]; omega)]
    exact hc j hjn
  clear hc
  rcases hij with h | ⟨h1, h2⟩ | ⟨h1, h2, h3⟩ | ⟨h1, h2, h3, h4⟩
  all_goals
    go_enter Try.func4, Try.ntmps4
    go_wp2_with fail
    refine (bytes10 _ _ _ _ _ _ (by omega)).mono ?_
    rintro e w' ⟨rfl, rfl⟩
    go_wp2_with (refine wpList_copy_splice rfl (.tmp 28) (.tmp 29) 22 22 rfl 24 Try.underlying22 (by kernel_rfl) _ _ _ _ _ _ rfl rfl w.heap.size 0 (List.replicate n (.float .f64 0)) 24 (made_block _ _ _ _) (flts n F) (by rw [flts_length]; simp) (fun _ => ⟨rfl, ad, rfl, HS.out⟩) (by simp [flts_length]) (by simp [flts, Value.oneCell']) w.heap.size w ((Below.refl _ _).alloc (Nat.le_refl _) _) (Nat.le_refl _) ?_; intro w2 HG2 hB2)
    go_ret
    exact ⟨rfl, hB2⟩

set_option maxHeartbeats 2000000 in
set_option maxRecDepth 100000 in
theorem pick_main (ad : Addr) (n c i j : Nat) (F : Nat → Nat) (w : World) (hn : n ≤ 65536) (hc : ∀ j, j < n → w.cell? (ad.add j) = some (.float .f64 (F j))) (hlt : 0 < n → ad.block < w.heap.size)
    (hi : i < n) (hj : j < n) : Calls Try.prog 4 #[.slice (some ad) n c, .int .i64 i, .int .i64 j] w fun e w' => e = .returned (.bool true) ∧ Below w.heap.size w w' := by
  have hmk := run_make_row' (P := Try.prog) 22 24 (.float .f64 0) 8 Try.underlying22 Try.info24 rfl .i64 .i64 n (by omega) (by omega)
  have HS : Hid (∀ j v, (flts n F)[j]? = some v → (w.alloc (.cells (madeCells #[.float .f64 0] n) 24)).cell? (ad.add j) = some v) := by
    intro j v hj
    obtain ⟨hjn, rfl⟩ := flts_get n F j v hj
    rw [World.cell?_alloc_old _ _ _ (by have := hlt (by omega); rw [show (ad.add j).block = ad.block by unfold Addr.add; split <;> rfl]; omega)]
    exact hc j hjn
  clear hc
  have hiz : (i : Int) < (n : Int) := by omega
  have hjz : (j : Int) < (n : Int) := by omega
  go_enter Try.func4, Try.ntmps4
  go_wp2_with fail
  refine (bytes10 _ _ _ _ _ _ (by omega)).mono ?_
  rintro e w' ⟨rfl, rfl⟩
  go_wp2_with (refine wpList_copy_splice rfl (.tmp 28) (.tmp 29) 22 22 rfl 24 Try.underlying22 (by kernel_rfl) _ _ _ _ _ _ rfl rfl w.heap.size 0 (List.replicate n (.float .f64 0)) 24 (made_block _ _ _ _) (flts n F) (by rw [flts_length]; simp) (fun _ => ⟨rfl, ad, rfl, HS.out⟩) (by simp [flts_length]) (by simp [flts, Value.oneCell']) w.heap.size w ((Below.refl _ _).alloc (Nat.le_refl _) _) (Nat.le_refl _) ?_; intro w2 HG2 hB2)
  have hrow2 := row_of_splice HG2.out
  clear HG2 HS hmk
  go_loopw [9] (fun i wr => ∃ k q : Nat, k ≤ n ∧ i = .int .i64 k ∧ Hid (∀ j, j < k → ford (F j) (F j) = some .eq) ∧ wr = w2.drewN q) (fun i _ => n - (intOf i).toNat)
  case atStart => exact ⟨0, 0, Nat.zero_le _, rfl, fun j hj => absurd hj (Nat.not_lt_zero _), rfl⟩
  case round =>
    obtain ⟨k, q, hk, rfl, HN, rfl⟩ := hrel
    by_cases hkn : k < n
    · have hkz : (k : Int) < (n : Int) := by omega
      have hcell := hrow2.cell hkn
      cases hnan : (FloatKind.f64.format.order (F k) (F k) != some .eq) with
      | true =>
        go_wp2
        go_quiet (fail)
        go_wp2
        go_ret
        exact ⟨rfl, below_drewN (below_drewN hB2 _) _⟩
      | false =>
        go_wp2
        go_quiet (fail)
        go_wp2
        go_roundw
        case rel => exact ⟨k + 1, _, by omega, by go_num, nan_next HN hnan, rfl⟩
        case measure => simp [intOf]; omega
    · obtain rfl : n = k := by omega
      have hN : ∀ j, j < n → ford (F j) (F j) = some .eq := HN.out
      have HN : Hid (∀ j, j < n → ford (F j) (F j) = some .eq) := hN
      clear hN
      go_wp2_with fail
      refine (new8 w.heap.size n n F (w2.drewN q) (by omega) hrow2).mono ?_
      rintro e w3 ⟨rfl, hbyc, hb3, hs3⟩
      have hBw3 : Below w.heap.size w w3 := (below_drewN hB2 q).trans (hb3.mono hB2.size)
      have hrow3 : w3.rowIs w.heap.size 24 n (fun j => .float .f64 (F j)) := hrow2.of_block (hb3.block _ hrow2.lt)
      have hbyc3 : Byc w3 w2.heap.size n F := hbyc
      clear hs3 hb3 hbyc hrow2
      go_wp2_with fail
      go_loopw [11, 12] (fun vm vk wr => ∃ k m q : Nat, k ≤ n ∧ vk = .int .i64 k ∧ vm = .int .i64 m ∧ Pick F k m ∧ wr = w3.drewN q) (fun _ vk _ => n - (intOf vk).toNat)
      case atStart => exact ⟨1, 0, 0, by omega, rfl, rfl, pick_start F, rfl⟩
      case round =>
        obtain ⟨k, m, q3, hk, rfl, rfl, hP, rfl⟩ := hrel
        have hmk := hP.lt
        by_cases hkn : k < n
        · have hmn : m < n := by omega
          cases hless : (FloatKind.f64.format.order (F k) (F m) == some .lt) with
          | true =>
            have hP' := pick_new hP ((lss_iff (HN.out _ hkn) (HN.out _ hmn)).1 hless)
            go_wp2_with fail
            refine (less9 w2.heap.size n k m F (w3.drewN q3) (by omega) (hbyc3.drewN q3) hkn hmn).mono ?_
            rintro e w5 ⟨rfl, q5, rfl⟩
            go_wp2
            go_roundw
            case rel => exact ⟨k + 1, k, _, by omega, by go_num, rfl, hP', rfl⟩
            case measure => simp [intOf]; omega
          | false =>
            have hP' := pick_old hP (lss_not (HN.out _ hkn) (HN.out _ hmn) hless)
            go_wp2_with fail
            refine (less9 w2.heap.size n k m F (w3.drewN q3) (by omega) (hbyc3.drewN q3) hkn hmn).mono ?_
            rintro e w5 ⟨rfl, q5, rfl⟩
            go_wp2
            go_roundw
            case rel => exact ⟨k + 1, m, _, by omega, by go_num, rfl, hP', rfl⟩
            case measure => simp [intOf]; omega
        · obtain rfl : n = k := by omega
          have hmn : m < n := hmk
          have hmz : (m : Int) < (n : Int) := by omega
          have xm := hrow3.cell hmn
          have xi := hrow3.cell hi
          have xj := hrow3.cell hj
          go_wp2_with fail
          go_loopw [13] (fun vk wr => ∃ k q : Nat, k ≤ n ∧ vk = .int .i64 k ∧ wr = w3.drewN q) (fun vk _ => n - (intOf vk).toNat)
          case atStart => exact ⟨0, q3, Nat.zero_le _, rfl, rfl⟩
          case round =>
            obtain ⟨k, q4, hk4, rfl, rfl⟩ := hrel
            by_cases hkn : k < n
            · have hkz : (k : Int) < (n : Int) := by omega
              have xk := hrow3.cell hkn
              have hls := pick_lss hP hkn (HN.out _ hkn) (HN.out _ hmn)
              by_cases hkm : k < m
              · have heq := pick_eql hP hkm (HN.out _ hkn) (HN.out _ hmn)
                have hkmz : (k : Int) < (m : Int) := by omega
                go_wp2
                go_quiet (fail)
                go_wp2
                go_quiet (fail)
                go_wp2
                go_roundw
                case rel => exact ⟨k + 1, _, by omega, by go_num, rfl⟩
                case measure => simp [intOf]; omega
              · have hkd : decide ((k : Int) < (m : Int)) = false := decide_eq_false (by omega)
                go_wp2
                go_quiet (fail)
                go_wp2
                go_quiet (fail)
                go_wp2
                go_roundw
                case rel => exact ⟨k + 1, _, by omega, by go_num, rfl⟩
                case measure => simp [intOf]; omega
            · rcases three_ways (HN.out _ hi) (HN.out _ hj) with ⟨t1, t2, t3⟩ | ⟨t1, t2, t3⟩ | ⟨t1, t2, t3⟩
              all_goals
                go_wp2_with fail
                refine (less9 w2.heap.size n i j F (w3.drewN q4) (by omega) (hbyc3.drewN q4) hi hj).mono ?_
                rintro e w5 ⟨rfl, q5, rfl⟩
                go_wp2_with fail
                refine (less9 w2.heap.size n j i F (w3.drewN (q4 + q5)) (by omega) (hbyc3.drewN _) hj hi).mono ?_
                rintro e w6 ⟨rfl, q6, rfl⟩
                go_wp2_with fail
                go_quiet (fail)
                go_wp2
                go_ret
                exact ⟨rfl, below_drewN hBw3 _⟩

theorem pick_all (v0 : Value) (i j : Int) (w : World) (h : v0 = .slice none 0 0 ∨ ∃ (ad : Addr) (len cap : Nat) (F : Nat → Nat), v0 = .slice (some ad) len cap ∧ len ≤ maxLen ∧ (∀ j, j < len → w.cell? (ad.add j) = some (.float .f64 (F j))) ∧ (0 < len → ad.block < w.heap.size)) :
    Calls Try.prog 4 #[v0, .int .i64 i, .int .i64 j] w fun e w' => e = .returned (.bool true) ∧ Below w.heap.size w w' := by
  rcases h with rfl | ⟨ad, n, c, F, rfl, hm, hc, hlt⟩
  · exact (pick_nil i j w).mono fun e w' ⟨he, hw⟩ => ⟨he, hw ▸ Below.refl _ _⟩
  · by_cases hn : n ≤ 65536
    · by_cases hij : i < 0 ∨ (0 ≤ i ∧ (n : Int) ≤ i) ∨ (0 ≤ i ∧ i < n ∧ j < 0) ∨ (0 ≤ i ∧ i < n ∧ 0 ≤ j ∧ (n : Int) ≤ j)
      · exact pick_out ad n c i j F w hn hc hlt hij
      · obtain ⟨i', rfl⟩ := Int.eq_ofNat_of_zero_le (show 0 ≤ i by omega)
        obtain ⟨j', rfl⟩ := Int.eq_ofNat_of_zero_le (show 0 ≤ j by omega)
        exact pick_main ad n c i' j' F w hn hc hlt (by omega) (by omega)
    · exact (pick_early (some ad) n c i j w (by omega) hm).mono fun e w' ⟨he, hw⟩ => ⟨he, hw ▸ Below.refl _ _⟩

set_option maxRecDepth 100000 in
theorem pick_lifted (os : Os) (started : os.Started) (H : Type) (enc : TypeId × Value → H) :
    ReturnsInHanded {} Try.checked os 4 .any (Rows.fnLessPicksLeastSpec.pre6 enc Try.prog Try.f4 Rows.fnLessPicksLeastRow.domain false) (Rows.fnLessPicksLeastSpec.post enc Try.prog Try.f4 false true false false) := by
  refine returnsInHanded_of_change (C := Try.checked) own started (by kernel_rfl) Try.func4
    (ChangeSpec.witness6 (enc := enc) (C := Try.checked) false ⟨#[], #[.slice none 0 0, .int .i64 0, .int .i64 0], []⟩ 8 (by kernel_rfl) (by kernel_rfl) (by kernel_rfl) (by kernel_rfl)) ?_
  intro W base args ds gs before hval0 hW hcnd _
  have hval : ∀ (j : Nat) t v, Try.f4.params[j]? = some t → args[j]? = some v → Value.okWide Try.prog W .any base t v := hval0
  have hW' := hW
  obtain ⟨p, q, hA0, hV, rfl, hfz, hnd⟩ := hW
  have hA : DataW.TrodAll enc Try.prog W 0 (fun _ => true) true Try.f4.params.toList args.toList ds p := hA0
  rw [Try.params4] at hA hval
  obtain ⟨v0, v1, v2, d0, d1, d2, p0, p1, p2, rfl, rfl, rfl, h0, h1, h2⟩ := trodAll_three hA
  obtain ⟨rfl, rfl⟩ := trodVars_none hV
  have h0k := h0
  have hfl := floats_of (hval 0 22 v0 rfl rfl) h0
  obtain ⟨i, rfl, rfl, rfl, wi⟩ := open_int Try.underlying3 (hval 1 3 v1 rfl rfl) h1
  obtain ⟨j, rfl, rfl, rfl, wj⟩ := open_int Try.underlying3 (hval 2 3 v2 rfl rfl) h2
  have hlt : ∀ x ∈ p0, x.block < W.heap.size := fun x hx => hW'.lt x (by simp [hx])
  clear hA0 hval0
  refine (pick_all v0 i j W hfl).mono fun e W' ⟨he, hB⟩ => ?_
  subst he
  refine ⟨_, rfl, _, _, _, [], p0 ++ ([] ++ []), [], hW', ?_, ?_, rfl, hB.frame _, fun h => by cases h⟩
  · exact trodAll_mk1 (shut_bool Try.underlying4 _)
  · exact trodAll_mk3 (Below.trod laidOut (by kernel_rfl) (of_decide_eq_true (by kernel_rfl)) h0k hB hlt) (shut_int Try.underlying3 wi) (shut_int Try.underlying3 wj)

theorem pick_proved : Rows.FnLessPicksLeastSaid :=
  OpenClaim.holds_of_wide 4 Try.f4 rfl rfl rfl rfl rfl rfl rfl ⟨rfl, rfl, rfl, rfl, rfl⟩ rfl rfl rfl rfl rfl (by kernel_rfl) Try.func4 (by kernel_rfl)
    (of_decide_eq_true (by kernel_rfl)) (by unfold Func.isWrapper; first | (rw [if_pos (by decide +kernel)]; kernel_rfl) | (rw [if_neg (by decide +kernel)]; exact ⟨rfl, rfl⟩))
    (fun os started H enc _ => pick_lifted os started H enc)
#print axioms pick_proved
end Go.Proofs.Qxb6609374a
