import Derived.Test.Qxb6609374aFull
import Derived.Test.Qxb6609374aOpen
import Derived.Deep.MidRow
import Derived.Laws.CopyOwn
namespace Go.Proofs.Qxb6609374a
open Go.ChangeShapes Go.WideShapes Go.ChangeAt Go.RowKit Go.Deep
set_option linter.unusedVariables false
set_option linter.unusedSimpArgs false

theorem Try.info70 : (Try.prog.info? 70).map (fun i => (i.zero.isSome, i.size, decide (i.bytes ≤ 1000))) = some (true, 52, true) := by kernel_rfl
theorem Try.size70 : (Try.prog.info? 70).map (·.size) = some 52 := by kernel_rfl
theorem make56 (n : Nat) (hn : n ≤ 65536) : ∃ C : Array Value, C.size = n * 52 ∧ ∀ w : World, (Instr.makeSlice 56 (.int .i64 (n : Int)) (.int .i64 (n : Int))).run Try.prog w = .ok (.slice (some ⟨w.heap.size, 0, none⟩) n n) (w.alloc (.cells C 70)) := by
  obtain ⟨i, hi, h2⟩ := Option.map_eq_some_iff.1 Try.info70
  simp only [Prod.mk.injEq, decide_eq_true_eq] at h2
  obtain ⟨hz, hs, hb⟩ := h2
  obtain ⟨z, hz⟩ := Option.isSome_iff_exists.1 hz
  refine ⟨madeCells z.cells (n * 52), size_madeCells _ _, fun w => ?_⟩
  have hmul : i.bytes * n ≤ 1000 * 65536 := Nat.mul_le_mul hb hn
  have hr := run_make (P := Try.prog) w 56 70 i z Try.underlying56 hi hz .i64 .i64 n n (by omega) (Int.le_refl _) (by have : ((i.bytes * n : Nat) : Int) ≤ 65536000 := by omega
                                                                                                                      rw [Int.natCast_mul] at this; omega) (by omega)
  simp only [Int.toNat_natCast, hs] at hr
  exact hr


/-- A fresh backend's cells. -/
def bcells (u : Bool) : Array Value :=
  #[.bool u, .string ⟨#[115, 101, 114, 118, 105, 110, 103]⟩, .int .i64 0, .int .i64 0, .bool false, .int .i64 0, .bool false, .float .f64 0, .bool false, .int .i64 0, .bool false, .int .i64 0, .bool false,
    .int .i64 0, .int .i64 0, .int .i64 0, .int .i64 0, .int .i64 0, .slice none 0 0, .slice none 0 0, .int .i64 0, .string ⟨#[]⟩, .bool false,
    .int .i64 0, .bool false, .int .i64 0, .bool false, .bool false, .bool false, .int .i64 0, .bool false, .bool false, .bool false, .int .i64 0, .int .i64 0, .bool false, .bool false, .int .i64 0, .slice none 0 0, .map none, .bool false, .bool false, .int .i64 0, .int .i64 0, .bool false, .int .i64 0, .int .i64 0, .int .i64 0, .pointer none, .int .u64 0, .int .u64 0,
    .pointer none]
theorem bcells_size (u : Bool) : (bcells u).size = 52 := rfl
theorem bcells_one (u : Bool) : (bcells u).all (·.oneCell') = true := by simp [bcells, Value.oneCell']
theorem size70b (u : Bool) : (Try.prog.info? 70).map (·.size) = some (bcells u).size := Try.size70
theorem bk_of_range {w : World} {b o : Nat} {u : Bool} (h : w.rangeAt b o (bcells u).toList) : Bk w b o u 0 0 0 false none :=
  ⟨h 0 _ rfl, h 2 _ rfl, h 13 _ rfl, h 23 _ rfl, h 40 _ rfl, h 41 _ rfl, h 51 _ rfl⟩

theorem store_bk {ops : Array Oper} {rest : List Oper} {op : Oper} {a : Act} {wr : World} {Q : Exit → Act → World → Prop} (hgd : op.guard = none) (ho : op.op = .store 70 (.tmp 24) (.tmp 23)) (N k : Nat) (u : Bool)
    (hx : a.eval (.tmp 24) = .pointer (some ⟨N, k * 52, none⟩)) (hy : a.eval (.tmp 23) = .agg (bcells u)) (ht : Hid (wr.there N (k * 52) 52))
    (h : wpList Try.prog ops Q rest (a.put op.dst undef) (wr.setCells N (k * 52) (bcells u).toList)) : wpList Try.prog ops Q (op :: rest) a wr :=
  wpList_store_mid hgd 70 _ _ ho N (k * 52) (bcells u) hx hy (by rw [bcells_size]; exact ht.out) (size70b u) (bcells_one u) h

/-- At the loop's head, k backends laid. -/
structure SMid (w wr : World) (b n k : Nat) (U : Nat → Bool) : Prop where
  bel : Below w.heap.size w wr
  row : wr.rowIs b 4 n (fun j => .bool (U j))
  fits : ∀ j, j < n → wr.there w.heap.size (j * 52) 52
  done : ∀ j, j < k → wr.rangeAt w.heap.size (j * 52) (bcells (U j)).toList
  size : wr.heap.size = w.heap.size + 1

theorem below_setCells {B : Nat} {w wr : World} (h : Below B w wr) {b : Nat} (hb : B ≤ b) : ∀ (vs : List Value) (o : Nat), Below B w (wr.setCells b o vs) := by
  intro vs
  induction vs generalizing wr with
  | nil => intro o; exact h
  | cons v r ih => intro o; exact ih (h.setCell (p := ⟨b, o, none⟩) hb v) (o + 1)
theorem size_setCells (b : Nat) : ∀ (vs : List Value) (o : Nat) (wr : World), (wr.setCells b o vs).heap.size = wr.heap.size
  | [], _, _ => rfl
  | v :: r, o, wr => by rw [World.setCells, size_setCells b r (o + 1)]; simp [World.setCell]
theorem block_setCells (b c : Nat) (h : c ≠ b) : ∀ (vs : List Value) (o : Nat) (wr : World), (wr.setCells b o vs).heap[c]? = wr.heap[c]?
  | [], _, _ => rfl
  | v :: r, o, wr => by rw [World.setCells, block_setCells b c h r (o + 1)]; exact Below.heap_setCell _ _ _ _ h

theorem smid_start {w : World} {b n : Nat} {U : Nat → Bool} {C : Array Value} (hr : w.rowIs b 4 n (fun j => .bool (U j))) (hC : C.size = n * 52) : SMid w (w.alloc (.cells C 70)) b n 0 U := by
  refine ⟨(Below.refl _ _).alloc (Nat.le_refl _) _, hr.alloc _, fun j hj i hi => ?_, fun j hj => absurd hj (Nat.not_lt_zero _), by simp⟩
  have hlt : j * 52 + i < C.size := by
    have : (j + 1) * 52 ≤ n * 52 := Nat.mul_le_mul_right _ hj
    omega
  have hb : (w.alloc (.cells C 70)).heap[w.heap.size]? = some (.cells C 70) := blk_alloc_new _ _
  refine ⟨by rw [cell_of_row _ _ _ C 70 (0, 0) hb]; simp [hlt], ?_⟩
  simp only [World.frozen?, hb]
  simp

theorem smid_step {w wr : World} {b n k : Nat} {U : Nat → Bool} (hb : b < w.heap.size) (hk : k < n) (h : SMid w wr b n k U) :
    SMid w (wr.setCells w.heap.size (k * 52) (bcells (U k)).toList) b n (k + 1) U := by
  refine ⟨below_setCells h.bel (Nat.le_refl _) _ _, h.row.of_block (block_setCells _ _ (by omega) _ _ _), fun j hj => World.there_setCells (h.fits j hj) _ _ _, fun j hj => ?_, by rw [size_setCells]; exact h.size⟩
  by_cases e : j = k
  · subst e
    exact World.rangeAt_setCells_same _ _ _ _ (h.fits j hk)
  · refine World.rangeAt_setCells_apart (h.done j (by omega)) _ _ _ (Or.inr (Or.inl ?_))
    show j * 52 + 52 ≤ k * 52
    have : (j + 1) * 52 ≤ k * 52 := Nat.mul_le_mul_right _ (by omega)
    omega

/-- The scheduler that ZZnewSchedulerUps lays: its backends at block N, itself at block N + 1. -/
structure Sch (w : World) (N n : Nat) (U : Nat → Bool) (up : Int) : Prop where
  bk : ∀ j, j < n → Bk w N (j * 52) (U j) 0 0 0 false none
  list : w.cell? ⟨N + 1, 6, none⟩ = some (.slice (some ⟨N, 0, none⟩) n n)
  up : w.cell? ⟨N + 1, 8, none⟩ = some (.int .i64 up)
theorem Sch.drewN {w : World} {N n : Nat} {U : Nat → Bool} {up : Int} (h : Sch w N n U up) (q : Nat) : Sch (w.drewN q) N n U up := ⟨fun j hj => (h.bk j hj).drewN q, h.list, h.up⟩

theorem smid_end {w wr : World} {b n : Nat} {U : Nat → Bool} {up : Int} (h : SMid w wr b n n U) (c : Array Value) (h6 : c[6]? = some (.slice (some ⟨w.heap.size, 0, none⟩) n n)) (h8 : c[8]? = some (.int .i64 up)) :
    Sch (wr.alloc (.cells c 87)) w.heap.size n U up ∧ Below w.heap.size w (wr.alloc (.cells c 87)) := by
  have hs := h.size
  refine ⟨⟨fun j hj => bk_of_range (World.rangeAt_alloc (h.done j hj) _), ?_, ?_⟩, h.bel.alloc (by omega) _⟩
  · rw [← hs]; simp [h6]
  · rw [← hs]; simp [h8]

set_option maxHeartbeats 400000 in
set_option maxRecDepth 100000 in
theorem newS (b n : Nat) (U : Nat → Bool) (up : Int) (w : World) (hn : n ≤ 65536) (hr : w.rowIs b 4 n (fun j => .bool (U j))) :
    Calls Try.prog 13 #[.slice (some ⟨b, 0, none⟩) n n, .int .i64 up] w fun e w' => e = .returned (.pointer (some ⟨w.heap.size + 1, 0, none⟩)) ∧ Sch w' w.heap.size n U up ∧ Below w.heap.size w w' := by
  obtain ⟨C, hC, hmk⟩ := make56 n hn
  have hb := hr.lt
  go_enter Try.func13, Try.ntmps13
  go_wp2
  clear hmk
  go_loopw [6] (fun i wr => ∃ k : Nat, k ≤ n ∧ i = .int .i64 k ∧ SMid w wr b n k U) (fun i _ => n - (intOf i).toNat)
  case atStart => exact ⟨0, Nat.zero_le _, rfl, smid_start hr hC⟩
  case round =>
    obtain ⟨k, hk, rfl, hM⟩ := hrel
    by_cases hlt : k < n
    · have hc := hM.row.cell hlt
      have HT : Hid (wr.there w.heap.size (k * 52) 52) := hM.fits k hlt
      go_wp2_with (have _t := HT; refine store_bk rfl rfl w.heap.size k (U k) rfl rfl HT ?_; clear _t HT)
      go_roundw
      case rel => exact ⟨k + 1, by omega, by go_num, smid_step hb hlt hM⟩
      case measure => simp [intOf]; omega
    · obtain rfl : n = k := by omega
      have hs := hM.size
      go_wp2
      go_ret
      exact ⟨by simp [hs], smid_end hM _ rfl rfl⟩

/-! ### ZZbackendFull, Ready -/
theorem fresh_full (u : Bool) : fullB u 0 0 0 false false = !u := by cases u <;> rfl
set_option maxHeartbeats 400000 in
theorem bfull14 (N n k : Nat) (U : Nat → Bool) (up : Int) (w : World) (h : Sch w N n U up) (hn : n ≤ 65536) (hk : k < n) :
    Calls Try.prog 14 #[.pointer (some ⟨N + 1, 0, none⟩), .int .i64 k] w fun e w' => e = .returned (.bool !(U k)) ∧ ∃ q, w' = w.drewN q := by
  have hl := h.list
  have hkz : (k : Int) < (n : Int) := by omega
  go_enter Try.func14, Try.ntmps14
  go_wp2_with fail
  refine (full19_bare N (k * 52) (U k) 0 0 0 false w (h.bk k hk)).mono ?_
  rintro e w1 ⟨rfl, q, rfl⟩
  go_wp2_with fail
  go_ret
  exact ⟨congrArg (fun b => Ending.returned (.bool b)) (fresh_full _), q, rfl⟩
set_option maxHeartbeats 400000 in
theorem ready15 (N n : Nat) (U : Nat → Bool) (up : Int) (w : World) (h : Sch w N n U up) :
    Calls Try.prog 15 #[.pointer (some ⟨N + 1, 0, none⟩)] w fun e w' => e = .returned (.bool (decide (0 < up))) ∧ w = w' := by
  have hu := h.up
  clear h
  go_enter Try.func15, Try.ntmps15
  go_wp2
  go_ret
  exact ⟨rfl, rfl⟩

/-! ### plain -/
def cntU (U : Nat → Bool) : Nat → Nat
  | 0 => 0
  | k + 1 => cntU U k + (if U k then 1 else 0)
def anyU (U : Nat → Bool) : Nat → Bool
  | 0 => false
  | k + 1 => anyU U k || U k
theorem cntU_le (U : Nat → Bool) : ∀ k, cntU U k ≤ k
  | 0 => Nat.le_refl _
  | k + 1 => by have := cntU_le U k; simp only [cntU]; split <;> omega
theorem cntU_yes {U : Nat → Bool} {k : Nat} (h : U k = true) : cntU U (k + 1) = cntU U k + 1 := by simp [cntU, h]
theorem cntU_no {U : Nat → Bool} {k : Nat} (h : U k = false) : cntU U (k + 1) = cntU U k := by simp [cntU, h]
theorem anyU_yes {U : Nat → Bool} {k : Nat} (h : U k = true) : anyU U (k + 1) = true := by simp [anyU, h]
theorem anyU_no {U : Nat → Bool} {k : Nat} (h : U k = false) : anyU U (k + 1) = anyU U k := by simp [anyU, h]
theorem agree (U : Nat → Bool) : ∀ k, decide ((0 : Int) < (cntU U k : Int)) = anyU U k
  | 0 => rfl
  | k + 1 => by
    have ih := agree U k
    cases h : U k
    · rw [cntU_no h, anyU_no h]; exact ih
    · rw [cntU_yes h, anyU_yes h]; exact decide_eq_true (by omega)

theorem agreeB (U : Nat → Bool) (k : Nat) : (decide (0 < cntU U k) == anyU U k) = true := by
  rw [← agree U k]
  have : decide ((0 : Int) < (cntU U k : Int)) = decide (0 < cntU U k) := by
    rw [Bool.eq_iff_iff]; simp
  rw [this]
  exact beq_self_eq_true _

/-! ### the law -/
set_option maxHeartbeats 400000 in
theorem bytes12 (a : Option Addr) (n c : Nat) (w : World) (hn : n ≤ 1048576) : Calls Try.prog 12 #[.slice a n c] w fun e w' => e = .returned (.bool true) ∧ w = w' := by
  go_enter Try.func12, Try.ntmps12
  go_wp2
  go_ret
  exact ⟨rfl, rfl⟩
set_option maxHeartbeats 400000 in
theorem bytes12_no (a : Option Addr) (n c : Nat) (w : World) (hn : 1048576 < n) (hm : n ≤ 9223372036854775807) : Calls Try.prog 12 #[.slice a n c] w fun e w' => e = .returned (.bool false) ∧ w = w' := by
  go_enter Try.func12, Try.ntmps12
  go_wp2
  go_ret
  exact ⟨rfl, rfl⟩
set_option maxHeartbeats 400000 in
theorem rdy_early (a : Option Addr) (n c : Nat) (w : World) (hn : 65536 < n) (hm : n ≤ 9223372036854775807) : Calls Try.prog 6 #[.slice a n c] w fun e w' => e = .returned (.bool true) ∧ w' = w := by
  by_cases h : n ≤ 1048576
  · go_enter Try.func6, Try.ntmps6
    go_wp2_with (go_at_call 12; refine (bytes12 _ _ _ _ h).mono ?_; rintro e w' ⟨rfl, rfl⟩)
    go_ret
    exact ⟨rfl, rfl⟩
  · go_enter Try.func6, Try.ntmps6
    go_wp2_with (go_at_call 12; refine (bytes12_no _ _ _ _ (by omega) hm).mono ?_; rintro e w' ⟨rfl, rfl⟩)
    go_ret
    exact ⟨rfl, rfl⟩

theorem Try.info4 : (Try.prog.info? 4).map (fun i => (i.zero, i.size, i.bytes)) = some (some (.bool false), 1, 1) := by kernel_rfl
def bls (n : Nat) (U : Nat → Bool) : List Value := (List.range n).map (fun j => .bool (U j))
theorem bls_length (n : Nat) (U : Nat → Bool) : (bls n U).length = n := by simp [bls]
theorem bls_get (n : Nat) (U : Nat → Bool) (j : Nat) (v : Value) (h : (bls n U)[j]? = some v) : j < n ∧ v = .bool (U j) := by
  unfold bls at h
  rw [List.getElem?_map] at h
  by_cases hj : j < n
  · rw [List.getElem?_range hj] at h
    simp at h
    exact ⟨hj, h.symm⟩
  · rw [List.getElem?_eq_none (by simpa using hj)] at h
    cases h
theorem made_blockB (w : World) (n : Nat) (z : Value) (t : TypeId) : (w.alloc (.cells (madeCells #[z] n) t)).heap[w.heap.size]? = some (.cells (List.replicate n z).toArray t (0, 0)) := by
  have e : madeCells #[z] n = (List.replicate n z).toArray := by
    apply Array.toList_inj.1
    rw [toList_madeCells_one]
  rw [e]
  exact Go.Deep.blk_alloc_new _ _
theorem row_of_spliceB {w : World} {b n : Nat} {U : Nat → Bool} {z : Value} (h : w.heap[b]? = some (.cells (splice (List.replicate n z) 0 (bls n U)).toArray 4 (0, 0))) : w.rowIs b 4 n (fun j => .bool (U j)) := by
  have e : splice (List.replicate n z) 0 (bls n U) = bls n U := by
    unfold splice
    rw [List.drop_eq_nil_of_le (by simp [bls_length])]
    simp
  rw [e] at h
  refine ⟨_, h, by simp [bls_length], fun i hi => ?_⟩
  simp [bls, hi]

set_option maxHeartbeats 1000000 in
set_option maxRecDepth 100000 in
theorem rdy_main (ad : Addr) (n c : Nat) (U : Nat → Bool) (w : World) (hn : n ≤ 65536) (hc : ∀ j, j < n → w.cell? (ad.add j) = some (.bool (U j))) (hlt : 0 < n → ad.block < w.heap.size) : Calls Try.prog 6 #[.slice (some ad) n c] w fun e w' => e = .returned (.bool true) ∧ Below w.heap.size w w' := by
  have hmk := run_make_row' (P := Try.prog) 32 4 (.bool false) 1 Try.underlying32 Try.info4 rfl .i64 .i64 n (by omega) (by omega)
  have HS : Hid (∀ j v, (bls n U)[j]? = some v → (w.alloc (.cells (madeCells #[.bool false] n) 4)).cell? (ad.add j) = some v) := by
    intro j v hj
    obtain ⟨hjn, rfl⟩ := bls_get n U j v hj
    rw [World.cell?_alloc_old _ _ _ (by have := hlt (by omega); rw [show (ad.add j).block = ad.block by unfold Addr.add; split <;> rfl]; omega)]
    exact hc j hjn
  clear hc
  go_enter Try.func6, Try.ntmps6
  go_wp2_with fail
  refine (bytes12 _ _ _ _ (by omega)).mono ?_
  rintro e w' ⟨rfl, rfl⟩
  go_wp2_with (refine wpList_copy_splice rfl (.tmp 20) (.tmp 21) 32 32 rfl 4 Try.underlying32 (by kernel_rfl) _ _ _ _ _ _ rfl rfl w.heap.size 0 (List.replicate n (.bool false)) 4 (made_blockB _ _ _ _) (bls n U) (by rw [bls_length]; simp) (fun _ => ⟨rfl, ad, rfl, HS.out⟩) (by simp [bls_length]) (by simp [bls, Value.oneCell']) w.heap.size w ((Below.refl _ _).alloc (Nat.le_refl _) _) (Nat.le_refl _) ?_; intro w2 HG2 hB2)
  have hrow2 := row_of_spliceB HG2.out
  clear HG2 HS hmk
  go_loop [4, 5] (fun vn vk => ∃ k : Nat, k ≤ n ∧ vk = .int .i64 k ∧ vn = .int .i64 (cntU U k)) (fun _ vk => n - (intOf vk).toNat)
  case atStart => exact ⟨0, Nat.zero_le _, rfl, rfl⟩
  case round =>
    obtain ⟨k, hk, rfl, rfl⟩ := hrel
    have hcl := cntU_le U k
    by_cases hkn : k < n
    · have hkz : (k : Int) < (n : Int) := by omega
      have hcell := hrow2.cell hkn
      cases hU : U k with
      | true =>
        have HC : Hid (cntU U (k + 1) = cntU U k + 1) := cntU_yes hU
        go_wp2
        go_round
        case rel => exact ⟨k + 1, by omega, by go_num, by rw [HC.out]; go_num⟩
        case measure => simp [intOf]; omega
      | false =>
        have HC : Hid (cntU U (k + 1) = cntU U k) := cntU_no hU
        go_wp2
        go_round
        case rel => exact ⟨k + 1, by omega, by go_num, by rw [HC.out]⟩
        case measure => simp [intOf]; omega
    · obtain rfl : n = k := by omega
      go_wp2_with fail
      refine (newS w.heap.size n U _ w2 hn hrow2).mono ?_
      rintro e w3 ⟨rfl, hS, hb3⟩
      have hBw3 : Below w.heap.size w w3 := hB2.trans (hb3.mono hB2.size)
      clear hb3
      go_wp2_with fail
      go_loopw [7, 8] (fun vo vk wr => ∃ k q : Nat, k ≤ n ∧ vk = .int .i64 k ∧ vo = .bool (anyU U k) ∧ wr = w3.drewN q) (fun _ vk _ => n - (intOf vk).toNat)
      case atStart => exact ⟨0, 0, Nat.zero_le _, rfl, rfl, rfl⟩
      case round =>
        obtain ⟨k, q, hk2, rfl, rfl, rfl⟩ := hrel
        by_cases hkn2 : k < n
        · have hkz : (k : Int) < (n : Int) := by omega
          cases hU : U k with
          | true =>
            have HA : Hid (anyU U (k + 1) = true) := anyU_yes hU
            go_wp2_with fail
            refine (bfull14 _ n k U _ (w3.drewN q) (hS.drewN q) hn hkn2).mono ?_
            rintro e w4 ⟨rfl, q4, rfl⟩
            go_wp2
            go_roundw
            case rel => exact ⟨k + 1, _, by omega, by go_num, by rw [HA.out], rfl⟩
            case measure => simp [intOf]; omega
          | false =>
            have HA : Hid (anyU U (k + 1) = anyU U k) := anyU_no hU
            go_wp2_with fail
            refine (bfull14 _ n k U _ (w3.drewN q) (hS.drewN q) hn hkn2).mono ?_
            rintro e w4 ⟨rfl, q4, rfl⟩
            go_wp2
            go_roundw
            case rel => exact ⟨k + 1, _, by omega, by go_num, by rw [HA.out], rfl⟩
            case measure => simp [intOf]; omega
        · obtain rfl : n = k := by omega
          go_wp2_with fail
          refine (ready15 _ n U _ (w3.drewN q) (hS.drewN q)).mono ?_
          rintro e w5 ⟨rfl, rfl⟩
          go_wp2_with fail
          go_ret
          exact ⟨congrArg (fun b => Ending.returned (.bool b)) (agreeB U n), below_drewN hBw3 _⟩

set_option maxHeartbeats 400000 in
set_option maxRecDepth 100000 in
theorem newS_nil (w : World) : Calls Try.prog 13 #[.slice none 0 0, .int .i64 0] w fun e w' => e = .returned (.pointer (some ⟨w.heap.size + 1, 0, none⟩)) ∧ Sch w' w.heap.size 0 (fun _ => false) 0 ∧ Below w.heap.size w w' := by
  obtain ⟨C, hC, hmk0⟩ := make56 0 (by omega)
  have hmk : ∀ w : World, (Instr.makeSlice 56 (.int .i64 0) (.int .i64 0)).run Try.prog w = .ok (.slice (some ⟨w.heap.size, 0, none⟩) 0 0) (w.alloc (.cells C 70)) := hmk0
  clear hmk0
  go_enter Try.func13, Try.ntmps13
  go_wp2
  refine wp_loop_rounds 1 ?_
  rw [rounds_succ]
  go_wp2
  go_ret
  exact ⟨rfl, ⟨fun j hj => absurd hj (Nat.not_lt_zero _), by simp, by simp⟩, ((Below.refl _ _).alloc (Nat.le_refl _) _).alloc (by simp) _⟩

set_option maxHeartbeats 400000 in
set_option maxRecDepth 100000 in
theorem rdy_nil (w : World) : Calls Try.prog 6 #[.slice none 0 0] w fun e w' => e = .returned (.bool true) ∧ Below w.heap.size w w' := by
  go_enter Try.func6, Try.ntmps6
  go_wp2_with fail
  refine (bytes12 _ _ _ _ (by omega)).mono ?_
  rintro e w' ⟨rfl, rfl⟩
  go_wp2_with fail
  refine wp_loop_rounds 1 ?_
  rw [rounds_succ]
  go_wp2_with fail
  refine (newS_nil w).mono ?_
  rintro e w3 ⟨rfl, hS, hb3⟩
  go_wp2_with fail
  refine wp_loop_rounds 1 ?_
  rw [rounds_succ]
  go_wp2_with fail
  refine (ready15 _ 0 _ _ w3 hS).mono ?_
  rintro e w5 ⟨rfl, rfl⟩
  go_wp2_with fail
  go_ret
  exact ⟨rfl, hb3⟩

theorem rdy_all (v0 : Value) (w : World) (h : v0 = .slice none 0 0 ∨ ∃ (ad : Addr) (len cap : Nat) (F : Nat → Bool), v0 = .slice (some ad) len cap ∧ len ≤ maxLen ∧ (∀ j, j < len → w.cell? (ad.add j) = some (.bool (F j))) ∧ (0 < len → ad.block < w.heap.size)) :
    Calls Try.prog 6 #[v0] w fun e w' => e = .returned (.bool true) ∧ Below w.heap.size w w' := by
  rcases h with rfl | ⟨ad, n, c, F, rfl, hm, hc, hlt⟩
  · exact rdy_nil w
  · by_cases hn : n ≤ 65536
    · exact rdy_main ad n c F w hn hc hlt
    · exact (rdy_early (some ad) n c w (by omega) hm).mono fun e w' ⟨he, hw⟩ => ⟨he, hw ▸ Below.refl _ _⟩

set_option maxRecDepth 100000 in
theorem rdy_lifted (os : Os) (started : os.Started) (H : Type) (enc : TypeId × Value → H) :
    ReturnsInHanded {} Try.checked os 6 .any (Rows.fnReadyAgreesWithFullSpec.pre6 enc Try.prog Try.f6 Rows.fnReadyAgreesWithFullRow.domain false) (Rows.fnReadyAgreesWithFullSpec.post enc Try.prog Try.f6 false true false false) := by
  refine returnsInHanded_of_change (C := Try.checked) own started (by kernel_rfl) Try.func6
    (ChangeSpec.witness6 (enc := enc) (C := Try.checked) false ⟨#[], #[.slice none 0 0], []⟩ 8 (by kernel_rfl) (by kernel_rfl) (by kernel_rfl) (by kernel_rfl)) ?_
  intro W base args ds gs before hval0 hW hcnd _
  have hval : ∀ (j : Nat) t v, Try.f6.params[j]? = some t → args[j]? = some v → Value.okWide Try.prog W .any base t v := hval0
  have hW' := hW
  obtain ⟨p, q, hA0, hV, rfl, hfz, hnd⟩ := hW
  have hA : DataW.TrodAll enc Try.prog W 0 (fun _ => true) true Try.f6.params.toList args.toList ds p := hA0
  rw [Try.params6] at hA hval
  obtain ⟨v0, d0, rfl, rfl, h0⟩ := trodAll_one hA
  obtain ⟨rfl, rfl⟩ := trodVars_none hV
  have h0k := h0
  have hfl := bools_of (hval 0 32 v0 rfl rfl) h0
  have hlt : ∀ x ∈ p, x.block < W.heap.size := fun x hx => hW'.lt x (by simp [hx])
  clear hA0 hval0
  refine (rdy_all v0 W hfl).mono fun e W' ⟨he, hB⟩ => ?_
  subst he
  refine ⟨_, rfl, _, _, _, [], p, [], hW', ?_, ?_, rfl, hB.frame _, fun h => by cases h⟩
  · exact trodAll_mk1 (shut_bool Try.underlying4 _)
  · exact trodAll_mk1 (Below.trod laidOut (by kernel_rfl) (of_decide_eq_true (by kernel_rfl)) h0k hB hlt)

theorem rdy_proved : Rows.FnReadyAgreesWithFullSaid :=
  OpenClaim.holds_of_wide 6 Try.f6 rfl rfl rfl rfl rfl rfl rfl ⟨rfl, rfl, rfl, rfl, rfl⟩ rfl rfl rfl rfl rfl (by kernel_rfl) Try.func6 (by kernel_rfl)
    (of_decide_eq_true (by kernel_rfl)) (by unfold Func.isWrapper; first | (rw [if_pos (by decide +kernel)]; kernel_rfl) | (rw [if_neg (by decide +kernel)]; exact ⟨rfl, rfl⟩))
    (fun os started H enc _ => rdy_lifted os started H enc)
#print axioms rdy_proved
end Go.Proofs.Qxb6609374a
