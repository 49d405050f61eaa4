import Derived.Test.Qxb6609374aFull
import Derived.Test.Qxb6609374aOpen
namespace Go.Proofs.Qxb6609374a
open Go.ChangeShapes Go.WideShapes Go.ChangeAt Go.RowKit
set_option linter.unusedVariables false
set_option linter.unusedSimpArgs false

/-! ### plain -/
theorem full_idle {mr mw : Int} {ca out : Bool} (h : 1 ≤ mr) : fullB true 0 mr mw ca out = false := by
  have : ¬ mr ≤ 0 := by omega
  simp [fullB, capB, unsB, this]
theorem full_cap {mr mw : Int} {ca out : Bool} (h : 1 ≤ mr) : fullB true mr mr mw ca out = true := by
  have : 0 < mr := by omega
  simp [fullB, capB, this]
theorem full_down {fl mr mw : Int} {ca out : Bool} : fullB false fl mr mw ca out = true := by simp [fullB, capB]
theorem full_next {fl mr mw : Int} {ca out : Bool} (h : 0 ≤ fl) (hf : fullB true fl mr mw ca out = true) : fullB true (fl + 1) mr mw ca out = true := by
  have h1 : (fl + 1 == 0) = false := by simp; omega
  simp only [fullB, capB, unsB, Bool.or_eq_true, Bool.and_eq_true, decide_eq_true_eq, Bool.not_eq_true', Bool.or_eq_false_iff, h1, Bool.not_true, Bool.false_or] at hf ⊢
  rcases hf with ⟨a, b⟩ | ⟨⟨a, b, c⟩, d⟩
  · exact Or.inl ⟨a, by omega⟩
  · exact Or.inr ⟨⟨a, b, trivial⟩, d⟩

theorem chain2 {w a b : World} (h : Below w.heap.size w a) (k : Below a.heap.size a b) : Below w.heap.size w b := h.trans (k.mono h.size)
theorem chain5 {w a b c d e : World} (h1 : Below w.heap.size w a) (h2 : Below a.heap.size a b) (h3 : Below b.heap.size b c) (h4 : Below c.heap.size c d) (h5 : Below d.heap.size d e) : Below w.heap.size w e :=
  chain2 (chain2 (chain2 (chain2 h1 h2) h3) h4) h5

set_option maxHeartbeats 800000 in
theorem thr_early (mr fl mw : Int) (ca ra : Bool) (le : Int) (w : World) (h : mr < 1 ∨ (1 ≤ mr ∧ fl < 0) ∨ (1 ≤ mr ∧ 0 ≤ fl ∧ fl = 9223372036854775807) ∨ (1 ≤ mr ∧ 0 ≤ fl ∧ fl < 9223372036854775807 ∧ mw < 0) ∨ (1 ≤ mr ∧ 0 ≤ fl ∧ fl < 9223372036854775807 ∧ 0 ≤ mw ∧ le < -1)) :
    Calls Try.prog 5 #[.int .i64 mr, .int .i64 fl, .int .i64 mw, .bool ca, .bool ra, .int .i64 le] w fun e w' => e = .returned (.bool true) ∧ w' = w := by
  rcases h with h | ⟨h1, h⟩ | ⟨h1, h2, rfl⟩ | ⟨h1, h2, h3, h⟩ | ⟨h1, h2, h3, h4, h⟩
  · go_enter Try.func5, Try.ntmps5
    go_wp2
    go_ret
    exact ⟨rfl, rfl⟩
  · go_enter Try.func5, Try.ntmps5
    go_wp2
    go_ret
    exact ⟨rfl, rfl⟩
  · go_enter Try.func5, Try.ntmps5
    go_wp2
    go_ret
    exact ⟨rfl, rfl⟩
  · have hfm : (fl == 9223372036854775807) = false := by simp; omega
    have hd : decide (fl < 0) = false := decide_eq_false (by omega)
    have hm : decide (mw < 0) = true := decide_eq_true h
    go_enter Try.func5, Try.ntmps5
    go_wp2
    go_ret
    exact ⟨rfl, rfl⟩
  · have hfm : (fl == 9223372036854775807) = false := by simp; omega
    have hd : decide (fl < 0) = false := decide_eq_false (by omega)
    have hm : decide (mw < 0) = false := decide_eq_false (by omega)
    go_enter Try.func5, Try.ntmps5
    go_wp2
    go_ret
    exact ⟨rfl, rfl⟩

set_option maxHeartbeats 1600000 in
theorem thr_main (mr fl mw : Int) (ca ra : Bool) (le : Int) (w : World) (h1 : 1 ≤ mr) (h2 : 0 ≤ fl) (h3 : fl < 9223372036854775807) (h4 : 0 ≤ mw) (h5 : -1 ≤ le) :
    Calls Try.prog 5 #[.int .i64 mr, .int .i64 fl, .int .i64 mw, .bool ca, .bool ra, .int .i64 le] w fun e w' => e = .returned (.bool true) ∧ Below w.heap.size w w' := by
  have hfm : (fl == 9223372036854775807) = false := by simp; omega
  have f1 := full_idle (mr := mr) (mw := mw) (ca := ca) (out := ra && decide (0 < le)) h1
  have f2 := full_cap (mr := mr) (mw := mw) (ca := ca) (out := ra && decide (0 < le)) h1
  have f3 := full_down (fl := fl) (mr := mr) (mw := mw) (ca := ca) (out := ra && decide (0 < le))
  cases f4 : fullB true fl mr mw ca (ra && decide (0 < le)) with
  | true =>
    have f5 := full_next h2 f4
    go_enter Try.func5, Try.ntmps5
    go_wp2_with fail
    refine (fullAt11 _ _ _ _ _ _ _ _).mono ?_
    rintro e w1 ⟨rfl, hb1⟩
    go_wp2_with fail
    refine (fullAt11 _ _ _ _ _ _ _ _).mono ?_
    rintro e w2 ⟨rfl, hb2⟩
    go_wp2_with fail
    refine (fullAt11 _ _ _ _ _ _ _ _).mono ?_
    rintro e w3 ⟨rfl, hb3⟩
    go_wp2_with fail
    refine (fullAt11 _ _ _ _ _ _ _ _).mono ?_
    rintro e w4 ⟨rfl, hb4⟩
    go_wp2_with fail
    refine (fullAt11 _ _ _ _ _ _ _ _).mono ?_
    rintro e w5 ⟨rfl, hb5⟩
    go_wp2_with fail
    go_ret
    exact ⟨rfl, chain5 hb1 hb2 hb3 hb4 hb5⟩
  | false =>
    go_enter Try.func5, Try.ntmps5
    go_wp2_with fail
    refine (fullAt11 _ _ _ _ _ _ _ _).mono ?_
    rintro e w1 ⟨rfl, hb1⟩
    go_wp2_with fail
    refine (fullAt11 _ _ _ _ _ _ _ _).mono ?_
    rintro e w2 ⟨rfl, hb2⟩
    go_wp2_with fail
    refine (fullAt11 _ _ _ _ _ _ _ _).mono ?_
    rintro e w3 ⟨rfl, hb3⟩
    go_wp2_with fail
    refine (fullAt11 _ _ _ _ _ _ _ _).mono ?_
    rintro e w4 ⟨rfl, hb4⟩
    go_wp2_with fail
    refine (fullAt11 _ _ _ _ _ _ _ _).mono ?_
    rintro e w5 ⟨rfl, hb5⟩
    go_wp2_with fail
    go_ret
    exact ⟨rfl, chain5 hb1 hb2 hb3 hb4 hb5⟩

theorem thr_all (mr fl mw : Int) (ca ra : Bool) (le : Int) (w : World) (hw : (Lit.int .i64 fl).wf = true) :
    Calls Try.prog 5 #[.int .i64 mr, .int .i64 fl, .int .i64 mw, .bool ca, .bool ra, .int .i64 le] w fun e w' => e = .returned (.bool true) ∧ Below w.heap.size w w' := by
  have hfl : fl ≤ 9223372036854775807 := by
    have := hw
    simp [Lit.wf, IntKind.min, IntKind.max, IntKind.signed, IntKind.bits] at this
    omega
  by_cases h : mr < 1 ∨ (1 ≤ mr ∧ fl < 0) ∨ (1 ≤ mr ∧ 0 ≤ fl ∧ fl = 9223372036854775807) ∨ (1 ≤ mr ∧ 0 ≤ fl ∧ fl < 9223372036854775807 ∧ mw < 0) ∨ (1 ≤ mr ∧ 0 ≤ fl ∧ fl < 9223372036854775807 ∧ 0 ≤ mw ∧ le < -1)
  · exact (thr_early mr fl mw ca ra le w h).mono fun e w' ⟨he, hw⟩ => ⟨he, hw ▸ Below.refl _ _⟩
  · exact thr_main mr fl mw ca ra le w (by omega) (by omega) (by omega) (by omega) (by omega)

set_option maxRecDepth 100000 in
theorem thr_lifted (os : Os) (started : os.Started) (H : Type) (enc : TypeId × Value → H) :
    ReturnsInHanded {} Try.checked os 5 .any (Rows.fnFullThresholdSpec.pre6 enc Try.prog Try.f5 Rows.fnFullThresholdRow.domain false) (Rows.fnFullThresholdSpec.post enc Try.prog Try.f5 false true false false) := by
  refine returnsInHanded_of_change (C := Try.checked) own started (by kernel_rfl) Try.func5
    (ChangeSpec.witness6 (enc := enc) (C := Try.checked) false ⟨#[], #[.int .i64 0, .int .i64 0, .int .i64 0, .bool false, .bool false, .int .i64 0], []⟩ 8 (by kernel_rfl) (by kernel_rfl) (by kernel_rfl) (by kernel_rfl)) ?_
  intro W base args ds gs before hval0 hW hcnd _
  have hval : ∀ (j : Nat) t v, Try.f5.params[j]? = some t → args[j]? = some v → Value.okWide Try.prog W .any base t v := hval0
  have hW' := hW
  obtain ⟨p, q, hA0, hV, rfl, hfz, hnd⟩ := hW
  have hA : DataW.TrodAll enc Try.prog W 0 (fun _ => true) true Try.f5.params.toList args.toList ds p := hA0
  rw [Try.params5] at hA hval
  obtain ⟨v0, vs0, d0, ds0, p0, q0, hargs, rfl, rfl, h0, r0⟩ := trodAll_cons hA
  obtain ⟨v1, vs1, d1, ds1, p1, q1, rfl, rfl, rfl, h1, r1⟩ := trodAll_cons r0
  obtain ⟨v2, vs2, d2, ds2, p2, q2, rfl, rfl, rfl, h2, r2⟩ := trodAll_cons r1
  obtain ⟨v3, vs3, d3, ds3, p3, q3, rfl, rfl, rfl, h3, r3⟩ := trodAll_cons r2
  obtain ⟨v4, vs4, d4, ds4, p4, q4, rfl, rfl, rfl, h4, r4⟩ := trodAll_cons r3
  obtain ⟨v5, vs5, d5, ds5, p5, q5, rfl, rfl, rfl, h5, r5⟩ := trodAll_cons r4
  obtain ⟨rfl, rfl, rfl⟩ := trodAll_nil r5
  obtain rfl : args = #[v0, v1, v2, v3, v4, v5] := by cases args; simp_all
  obtain ⟨rfl, rfl⟩ := trodVars_none hV
  obtain ⟨a0, rfl, rfl, rfl, w0⟩ := open_int Try.underlying3 (hval 0 3 v0 rfl rfl) h0
  obtain ⟨a1, rfl, rfl, rfl, w1⟩ := open_int Try.underlying3 (hval 1 3 v1 rfl rfl) h1
  obtain ⟨a2, rfl, rfl, rfl, w2⟩ := open_int Try.underlying3 (hval 2 3 v2 rfl rfl) h2
  obtain ⟨a3, rfl, rfl, rfl⟩ := open_bool Try.underlying4 (hval 3 4 v3 rfl rfl) h3
  obtain ⟨a4, rfl, rfl, rfl⟩ := open_bool Try.underlying4 (hval 4 4 v4 rfl rfl) h4
  obtain ⟨a5, rfl, rfl, rfl, w5⟩ := open_int Try.underlying3 (hval 5 3 v5 rfl rfl) h5
  clear hA0 hval0
  simp only [List.append_nil] at hW'
  refine (thr_all a0 a1 a2 a3 a4 a5 W w1).mono fun e W' ⟨he, hB⟩ => ?_
  subst he
  refine ⟨_, rfl, _, _, _, [], [] ++ ([] ++ ([] ++ ([] ++ ([] ++ ([] ++ []))))), [], hW', ?_, ?_, rfl, hB.frame _, fun h => by cases h⟩
  · exact trodAll_cons_mk (p := []) (shut_bool Try.underlying4 _) trodAll_mk0
  · exact trodAll_cons_mk (shut_int Try.underlying3 w0) (trodAll_cons_mk (shut_int Try.underlying3 w1) (trodAll_cons_mk (shut_int Try.underlying3 w2) (trodAll_cons_mk (shut_bool Try.underlying4 _) (trodAll_cons_mk (shut_bool Try.underlying4 _) (trodAll_cons_mk (shut_int Try.underlying3 w5) trodAll_mk0)))))

theorem thr_proved : Rows.FnFullThresholdSaid :=
  OpenClaim.holds_of_wide 5 Try.f5 rfl rfl rfl rfl rfl rfl rfl ⟨rfl, rfl, rfl, rfl, rfl⟩ rfl rfl rfl rfl rfl (by kernel_rfl) Try.func5 (by kernel_rfl)
    (of_decide_eq_true (by kernel_rfl)) (by unfold Func.isWrapper; first | (rw [if_pos (by decide +kernel)]; kernel_rfl) | (rw [if_neg (by decide +kernel)]; exact ⟨rfl, rfl⟩))
    (fun os started H enc _ => thr_lifted os started H enc)
#print axioms thr_proved
end Go.Proofs.Qxb6609374a
