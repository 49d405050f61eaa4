import Derived.Test.Qxb6609374aSortPlain
namespace Go.Proofs.Qxb6609374a
open Go.RowKit
set_option linter.unusedVariables false
set_option linter.unusedSimpArgs false

set_option maxHeartbeats 400000 in
theorem bytes7 (a : Option Addr) (n c : Nat) (w : World) (hn : n ≤ 1048576) : Calls Try.prog 7 #[.slice a n c] w fun e w' => e = .returned (.bool true) ∧ w = w' := by
  go_enter Try.func7, Try.ntmps7
  go_wp2
  go_ret
  exact ⟨rfl, rfl⟩
set_option maxHeartbeats 400000 in
theorem bytes7_no (a : Option Addr) (n c : Nat) (w : World) (hn : 1048576 < n) (hm : n ≤ 9223372036854775807) : Calls Try.prog 7 #[.slice a n c] w fun e w' => e = .returned (.bool false) ∧ w = w' := by
  go_enter Try.func7, Try.ntmps7
  go_wp2
  go_ret
  exact ⟨rfl, rfl⟩
set_option maxHeartbeats 400000 in
theorem sort_early (a : Option Addr) (n c : Nat) (w : World) (hn : 1024 < n) (hm : n ≤ 9223372036854775807) : Calls Try.prog 3 #[.slice a n c] w fun e w' => e = .returned (.bool true) ∧ w' = w := by
  by_cases h : n ≤ 1048576
  · go_enter Try.func3, Try.ntmps3
    go_wp2_with (go_at_call 7; refine (bytes7 _ _ _ _ h).mono ?_; rintro e w' ⟨rfl, rfl⟩)
    go_ret
    exact ⟨rfl, rfl⟩
  · go_enter Try.func3, Try.ntmps3
    go_wp2_with (go_at_call 7; refine (bytes7_no _ _ _ _ (by omega) hm).mono ?_; rintro e w' ⟨rfl, rfl⟩)
    go_ret
    exact ⟨rfl, rfl⟩

/-- What lies in the copy. -/
def flts (n : Nat) (F : Nat → Nat) : List Value := (List.range n).map (fun j => .float .f64 (F j))

theorem flts_length (n : Nat) (F : Nat → Nat) : (flts n F).length = n := by simp [flts]
theorem flts_get (n : Nat) (F : Nat → Nat) (j : Nat) (v : Value) (h : (flts n F)[j]? = some v) : j < n ∧ v = .float .f64 (F j) := by
  unfold flts at h
  rw [List.getElem?_map] at h
  by_cases hj : j < n
  · rw [List.getElem?_range hj] at h
    simp at h
    exact ⟨hj, h.symm⟩
  · rw [List.getElem?_eq_none (by simpa using hj)] at h
    cases h
theorem made_block (w : World) (n : Nat) (z : Value) (t : TypeId) : (w.alloc (.cells (madeCells #[z] n) t)).heap[w.heap.size]? = some (.cells (List.replicate n z).toArray t (0, 0)) := by
  have e : madeCells #[z] n = (List.replicate n z).toArray := by
    apply Array.toList_inj.1
    rw [toList_madeCells_one]
  rw [e]
  exact Go.Deep.blk_alloc_new _ _
theorem row_of_splice {w : World} {b n : Nat} {F : Nat → Nat} {z : Value} (h : w.heap[b]? = some (.cells (splice (List.replicate n z) 0 (flts n F)).toArray 24 (0, 0))) : w.rowIs b 24 n (fun j => .float .f64 (F j)) := by
  have e : splice (List.replicate n z) 0 (flts n F) = flts n F := by
    unfold splice
    rw [List.drop_eq_nil_of_le (by simp [flts_length])]
    simp
  rw [e] at h
  refine ⟨_, h, by simp [flts_length], fun i hi => ?_⟩
  simp [flts, hi]

theorem lss_not {x y : Nat} (hx : ford x x = some .eq) (hy : ford y y = some .eq) (h : (FloatKind.f64.format.order x y == some .lt) = false) : ¬ flt x y := by
  intro hc
  have h2 : (ford x y == some .lt) = true := (lss_iff hx hy).2 hc
  have h3 : (ford x y == some .lt) = false := h
  rw [h3] at h2
  cases h2
theorem nan_next {F : Nat → Nat} {k : Nat} (HN : Hid (∀ j, j < k → ford (F j) (F j) = some .eq)) (h : (FloatKind.f64.format.order (F k) (F k) != some .eq) = false) : Hid (∀ j, j < k + 1 → ford (F j) (F j) = some .eq) := by
  intro j hj
  by_cases e : j = k
  · subst e
    show FloatKind.f64.format.order (F j) (F j) = some .eq
    simpa using h
  · exact HN.out j (by omega)

set_option maxHeartbeats 1000000 in
set_option maxRecDepth 100000 in
theorem sort_main (ad : Addr) (n c : Nat) (F : Nat → Nat) (w : World) (hn : n ≤ 1024) (hc : ∀ j, j < n → w.cell? (ad.add j) = some (.float .f64 (F j))) (hlt : 0 < n → ad.block < w.heap.size) : Calls Try.prog 3 #[.slice (some ad) n c] w fun e w' => e = .returned (.bool true) ∧ Below w.heap.size w w' := by
  have hmk := run_make_row' (P := Try.prog) 22 24 (.float .f64 0) 8 Try.underlying22 Try.info24 rfl .i64 .i64 n (by omega) (by omega)
  have HS : Hid (∀ j v, (flts n F)[j]? = some v → (w.alloc (.cells (madeCells #[.float .f64 0] n) 24)).cell? (ad.add j) = some v) := by
    intro j v hj
    obtain ⟨hjn, rfl⟩ := flts_get n F j v hj
    rw [World.cell?_alloc_old _ _ _ (by have := hlt (by omega); rw [show (ad.add j).block = ad.block by unfold Addr.add; split <;> rfl]; omega)]
    exact hc j hjn
  clear hc
  go_enter Try.func3, Try.ntmps3
  go_wp2_with fail
  refine (bytes7 _ _ _ _ (by omega)).mono ?_
  rintro e w' ⟨rfl, rfl⟩
  go_wp2_with (refine wpList_copy_splice rfl (.tmp 26) (.tmp 27) 22 22 rfl 24 Try.underlying22 (by kernel_rfl) _ _ _ _ _ _ rfl rfl w.heap.size 0 (List.replicate n (.float .f64 0)) 24 (made_block _ _ _ _) (flts n F) (by rw [flts_length]; simp) (fun _ => ⟨rfl, ad, rfl, HS.out⟩) (by simp [flts_length]) (by simp [flts, Value.oneCell']) w.heap.size w ((Below.refl _ _).alloc (Nat.le_refl _) _) (Nat.le_refl _) ?_; intro w2 HG2 hB2)
  have hrow2 := row_of_splice HG2.out
  clear HG2 HS hmk
  have hrow2' := hrow2
  go_loopw [5] (fun i wr => ∃ k q : Nat, k ≤ n ∧ i = .int .i64 k ∧ Hid (∀ j, j < k → ford (F j) (F j) = some .eq) ∧ wr = w2.drewN q) (fun i _ => n - (intOf i).toNat)
  case atStart => exact ⟨0, 0, Nat.zero_le _, rfl, fun j hj => absurd hj (Nat.not_lt_zero _), rfl⟩
  case round =>
    obtain ⟨k, q, hk, rfl, HN, rfl⟩ := hrel
    by_cases hkn : k < n
    · have hkz : (k : Int) < (n : Int) := by omega
      have hcell := hrow2.cell hkn
      cases hnan : (FloatKind.f64.format.order (F k) (F k) != some .eq) with
      | true =>
        go_wp2
        go_quiet (fail)
        go_wp2
        go_ret
        exact ⟨rfl, below_drewN (below_drewN hB2 _) _⟩
      | false =>
        go_wp2
        go_quiet (fail)
        go_wp2
        go_roundw
        case rel => exact ⟨k + 1, _, by omega, by go_num, nan_next HN hnan, rfl⟩
        case measure => simp [intOf]; omega
    · obtain rfl : n = k := by omega
      have hN : ∀ j, j < n → ford (F j) (F j) = some .eq := HN.out
      have HN : Hid (∀ j, j < n → ford (F j) (F j) = some .eq) := hN
      clear hN
      go_wp2_with fail
      refine (new8 w.heap.size n n F (w2.drewN q) (by omega) hrow2).mono ?_
      rintro e w3 ⟨rfl, hbyc, hb3, hs3⟩
      have HS3 : Hid (w3.heap.size = w2.heap.size + 2 + n) := hs3
      have hBw3 : Below w.heap.size w w3 := (below_drewN hB2 q).trans (hb3.mono hB2.size)
      have hrow3 : w3.rowIs w.heap.size 24 n (fun j => .float .f64 (F j)) := hrow2.of_block (hb3.block _ hrow2.lt)
      clear hs3 hb3 hrow2' 
      have hmk := run_make_row' (P := Try.prog) 27 3 (.int .i64 0) 8 Try.underlying27 Try.info3 rfl .i64 .i64 n (by omega) (by omega)
      go_wp2_with fail
      clear hmk
      go_loopw [8] (fun i wr => ∃ k : Nat, k ≤ n ∧ i = .int .i64 k ∧ Pm w3 wr n (fun j => if j < k then j else 0)) (fun i _ => n - (intOf i).toNat)
      case atStart => exact ⟨0, Nat.zero_le _, rfl, (pm_start w3 n).congr (fun i _ => by simp)⟩
      case round =>
        obtain ⟨k, hk, rfl, hP⟩ := hrel
        by_cases hkn2 : k < n
        · have hkz : (k : Int) < (n : Int) := by omega
          have hc1 := hP.row.cell hkn2
          have hf1 := hP.row.frozen k
          go_wp2
          go_roundw
          case rel => exact ⟨k + 1, by omega, by go_num, hP.fill⟩
          case measure => simp [intOf]; omega
        · obtain rfl : n = k := by omega
          have hP2 := hP.full
          clear hP
          go_wp2_with fail
          go_loopw [9] (fun i wr => ∃ (a : Nat) (p : Nat → Nat), 1 ≤ a ∧ (a ≤ n ∨ a = 1) ∧ i = .int .i64 a ∧ Srt F n a p ∧ Pm w3 wr n p) (fun i _ => n - (intOf i).toNat)
          case atStart => exact ⟨1, fun j => j, Nat.le_refl _, Or.inr rfl, rfl, srt_start F n, hP2⟩
          case round =>
            obtain ⟨a, p, ha1, ha2, rfl, hS, hP⟩ := hrel
            clear hP2
            by_cases han : a < n
            · have haz : (a : Int) < (n : Int) := by omega
              go_wp2
              obtain ⟨wo, rfl⟩ : ∃ wo : World, wo = wr := ⟨_, rfl⟩
              have hM0 := mids_start hS han
              go_loopw [10] (fun i wi => ∃ (b : Nat) (p : Nat → Nat), b ≤ a ∧ i = .int .i64 b ∧ Mids F n a b p ∧ Pm w3 wi n p) (fun i _ => (intOf i).toNat)
              case atStart => exact ⟨a, p, Nat.le_refl _, rfl, hM0, hP⟩
              case round =>
                obtain ⟨b, p', hb1, rfl, hM, hPi⟩ := hrel
                clear hM0 hS hP
                by_cases hb0 : 0 < b
                · obtain ⟨b', rfl⟩ : ∃ b', b = b' + 1 := ⟨b - 1, by omega⟩
                  have hbz : (0 : Int) < (b' : Int) + 1 := by omega
                  have q1 := hPi.row.cell (i := b' + 1) (by omega)
                  have q0 := hPi.row.cell (i := b') (by omega)
                  have f1 := hPi.row.frozen (b' + 1)
                  have f0 := hPi.row.frozen b'
                  have hi1 : p' (b' + 1) < n := mids_bound hM han (by omega)
                  have hi0 : p' b' < n := mids_bound hM han (by omega)
                  have hbi : Byc wr w2.heap.size n F := hbyc.below hPi.bel (by rw [HS3.out]; exact Nat.le_refl _)
                  cases hless : (FloatKind.f64.format.order (F (p' (b' + 1))) (F (p' b')) == some .lt) with
                  | true =>
                    have HM : Hid (Mids F n a b' (swp p' b')) := mids_step hM hb1 ((lss_iff (HN.out _ hi1) (HN.out _ hi0)).1 hless)
                    go_wp2
                    go_quiet ((go_at_call 9; refine Calls.quiet_of (less9 w2.heap.size n _ _ F _ (by omega) ⟨hbi.items, hbi.ten, hbi.box⟩ hi1 hi0)))
                    go_wp2
                    go_roundw
                    case rel => exact ⟨b', swp p' b', by omega, by go_num, HM.out, (hPi.swap b').drewN _⟩
                    case measure => simp [intOf] <;> omega
                  | false =>
                    have hE : Srt F n (a + 1) p' := mids_end hM hb1 (fun b'' hb'' => by
                      obtain rfl : b' = b'' := by omega
                      exact lss_not (HN.out _ hi1) (HN.out _ hi0) hless)
                    go_wp2
                    go_quiet ((go_at_call 9; refine Calls.quiet_of (less9 w2.heap.size n _ _ F _ (by omega) ⟨hbi.items, hbi.ten, hbi.box⟩ hi1 hi0)))
                    go_wp2
                    go_roundw
                    case rel => exact ⟨a + 1, p', by omega, Or.inl (by omega), by go_num, hE, hPi.drewN _⟩
                    case measure => simp [intOf]; omega
                · obtain rfl : b = 0 := by omega
                  have hE : Srt F n (a + 1) p' := mids_end hM hb1 (fun b'' hb'' => by omega)
                  go_wp2
                  go_quiet (fail)
                  go_wp2
                  go_roundw
                  case rel => exact ⟨a + 1, p', by omega, Or.inl (by omega), by go_num, hE, hPi.drewN _⟩
                  case measure => simp [intOf]; omega
            · go_wp2_with fail
              have hpb : ∀ i, i < n → p i < n := fun i hi => srt_bound hS (by omega) hi
              have hso : ∀ i, i + 1 < n → lex F p i (i + 1) := fun i hi => hS.sorted i (i + 1) (by omega) (by omega)
              have HPB : Hid (∀ i, i < n → p i < n) := hpb
              have HSO : Hid (∀ i, i + 1 < n → lex F p i (i + 1)) := hso
              obtain ⟨wo, rfl⟩ : ∃ wo : World, wo = wr := ⟨_, rfl⟩
              have hroww : wo.rowIs w.heap.size 24 n (fun j => .float .f64 (F j)) := hrow3.of_block (hP.bel.block _ hrow3.lt)
              have hBwo : Below w.heap.size w wo := hBw3.trans (hP.bel.mono hBw3.size)
              have hprow := hP.row
              clear hpb hso hS hP hrow3 hbyc hrow2
              go_loopw [12] (fun i wi => ∃ k q : Nat, 1 ≤ k ∧ (k ≤ n ∨ k = 1) ∧ i = .int .i64 k ∧ wi = wo.drewN q) (fun i _ => n - (intOf i).toNat)
              case atStart => exact ⟨1, 0, Nat.le_refl _, Or.inr rfl, rfl, rfl⟩
              case round =>
                obtain ⟨k, q5, hk1, hk2, rfl, rfl⟩ := hrel
                by_cases hk5 : k < n
                · obtain ⟨k', rfl⟩ : ∃ k', k = k' + 1 := ⟨k - 1, by omega⟩
                  have q1 := hprow.cell (i := k' + 1) (by omega)
                  have q0 := hprow.cell (i := k') (by omega)
                  have b1 := HPB.out (k' + 1) (by omega)
                  have b0 := HPB.out k' (by omega)
                  have x1 := hroww.cell b1
                  have x0 := hroww.cell b0
                  have hkz : (k' : Int) + 1 < (n : Int) := by omega
                  have hgt : (FloatKind.f64.format.order (F (p k')) (F (p (k' + 1))) == some .gt) = false := ends_gtr (HSO.out k' hk5) (HN.out _ b0) (HN.out _ b1)
                  cases heq : (FloatKind.f64.format.order (F (p k')) (F (p (k' + 1))) == some .eq) with
                  | true =>
                    have hpp : p k' < p (k' + 1) := ends_eql (HSO.out k' hk5) (HN.out _ b0) (HN.out _ b1) heq
                    have hpd : decide ((p (k' + 1) : Int) < (p k' : Int)) = false := decide_eq_false (by omega)
                    go_wp2
                    go_quiet (fail)
                    go_wp2
                    go_roundw
                    case rel => exact ⟨k' + 1 + 1, _, by omega, Or.inl (by omega), by go_num, rfl⟩
                    case measure => simp [intOf]; omega
                  | false =>
                    go_wp2
                    go_quiet (fail)
                    go_wp2
                    go_roundw
                    case rel => exact ⟨k' + 1 + 1, _, by omega, Or.inl (by omega), by go_num, rfl⟩
                    case measure => simp [intOf]; omega
                · go_wp2
                  go_ret
                  exact ⟨rfl, below_drewN hBwo _⟩

set_option maxHeartbeats 400000 in
set_option maxRecDepth 100000 in
theorem new8_nil (w : World) : Calls Try.prog 8 #[.slice none 0 0] w fun e w' => (∃ a, e = .returned (.pointer (some a))) ∧ Below w.heap.size w w' := by
  have hmk : ∀ w : World, (Instr.makeSlice 38 (.int .i64 0) (.int .i64 0)).run Try.prog w = .ok (.slice (some ⟨w.heap.size, 0, none⟩) 0 0) (w.alloc (.cells (madeCells #[.pointer none] 0) 39)) := run_make_row' (P := Try.prog) 38 39 (.pointer none) 8 Try.underlying38 Try.info39 rfl .i64 .i64 0 (by omega) (by omega)
  go_enter Try.func8, Try.ntmps8
  go_wp2
  refine wp_loop_rounds 1 ?_
  rw [rounds_succ]
  go_wp2
  go_ret
  exact ⟨⟨_, rfl⟩, ((Below.refl _ _).alloc (Nat.le_refl _) _).alloc (by simp) _⟩

set_option maxHeartbeats 400000 in
set_option maxRecDepth 100000 in
theorem sort_nil (w : World) : Calls Try.prog 3 #[.slice none 0 0] w fun e w' => e = .returned (.bool true) ∧ Below w.heap.size w w' := by
  have hmk : ∀ w : World, (Instr.makeSlice 27 (.int .i64 0) (.int .i64 0)).run Try.prog w = .ok (.slice (some ⟨w.heap.size, 0, none⟩) 0 0) (w.alloc (.cells (madeCells #[.int .i64 0] 0) 3)) := run_make_row' (P := Try.prog) 27 3 (.int .i64 0) 8 Try.underlying27 Try.info3 rfl .i64 .i64 0 (by omega) (by omega)
  go_enter Try.func3, Try.ntmps3
  go_wp2_with fail
  refine (bytes7 _ _ _ _ (by omega)).mono ?_
  rintro e w' ⟨rfl, rfl⟩
  go_wp2_with fail
  refine wp_loop_rounds 1 ?_
  rw [rounds_succ]
  go_wp2_with fail
  refine (new8_nil _).mono ?_
  rintro e w3 ⟨⟨a, rfl⟩, hb3⟩
  go_wp2_with fail
  refine wp_loop_rounds 1 ?_
  rw [rounds_succ]
  go_wp2_with fail
  refine wp_loop_rounds 1 ?_
  rw [rounds_succ]
  go_wp2_with fail
  refine wp_loop_rounds 1 ?_
  rw [rounds_succ]
  go_wp2_with fail
  go_ret
  exact ⟨rfl, hb3.alloc hb3.size _⟩
end Go.Proofs.Qxb6609374a
