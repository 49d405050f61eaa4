import Derived.Test.Qxb6609374aSortLaw
import Derived.Test.Qxb6609374aOpen
namespace Go.Proofs.Qxb6609374a
open Go.ChangeShapes Go.WideShapes Go.ChangeAt Go.RowKit Go.Deep
set_option linter.unusedVariables false

theorem sort_all (v0 : Value) (w : World) (h : v0 = .slice none 0 0 ∨ ∃ (ad : Addr) (len cap : Nat) (F : Nat → Nat), v0 = .slice (some ad) len cap ∧ len ≤ maxLen ∧ (∀ j, j < len → w.cell? (ad.add j) = some (.float .f64 (F j))) ∧ (0 < len → ad.block < w.heap.size)) :
    Calls Try.prog 3 #[v0] w fun e w' => e = .returned (.bool true) ∧ Below w.heap.size w w' := by
  rcases h with rfl | ⟨ad, n, c, F, rfl, hm, hc, hlt⟩
  · exact sort_nil w
  · by_cases hn : n ≤ 1024
    · exact sort_main ad n c F w hn hc hlt
    · exact (sort_early (some ad) n c w (by omega) hm).mono fun e w' ⟨he, hw⟩ => ⟨he, hw ▸ Below.refl _ _⟩

set_option maxRecDepth 100000 in
theorem sort_lifted (os : Os) (started : os.Started) (H : Type) (enc : TypeId × Value → H) :
    ReturnsInHanded {} Try.checked os 3 .any (Rows.fnLessSortsByCounterSpec.pre6 enc Try.prog Try.f3 Rows.fnLessSortsByCounterRow.domain false) (Rows.fnLessSortsByCounterSpec.post enc Try.prog Try.f3 false true false false) := by
  refine returnsInHanded_of_change (C := Try.checked) own started (by kernel_rfl) Try.func3
    (ChangeSpec.witness6 (enc := enc) (C := Try.checked) false ⟨#[], #[.slice none 0 0], []⟩ 8 (by kernel_rfl) (by kernel_rfl) (by kernel_rfl) (by kernel_rfl)) ?_
  intro W base args ds gs before hval0 hW hcnd _
  have hval : ∀ (j : Nat) t v, Try.f3.params[j]? = some t → args[j]? = some v → Value.okWide Try.prog W .any base t v := hval0
  have hW' := hW
  obtain ⟨p, q, hA0, hV, rfl, hfz, hnd⟩ := hW
  have hA : DataW.TrodAll enc Try.prog W 0 (fun _ => true) true Try.f3.params.toList args.toList ds p := hA0
  rw [Try.params3] at hA hval
  obtain ⟨v0, d0, rfl, rfl, h0⟩ := trodAll_one hA
  obtain ⟨rfl, rfl⟩ := trodVars_none hV
  have h0k := h0
  have hfl := floats_of (hval 0 22 v0 rfl rfl) h0
  have hlt : ∀ x ∈ p, x.block < W.heap.size := fun x hx => hW'.lt x (by simp [hx])
  clear hA0 hval0
  refine (sort_all v0 W hfl).mono fun e W' ⟨he, hB⟩ => ?_
  subst he
  refine ⟨_, rfl, _, _, _, [], p, [], hW', ?_, ?_, rfl, hB.frame _, fun h => by cases h⟩
  · exact trodAll_mk1 (shut_bool Try.underlying4 _)
  · exact trodAll_mk1 (Below.trod laidOut (by kernel_rfl) (of_decide_eq_true (by kernel_rfl)) h0k hB hlt)

theorem sort_proved : Rows.FnLessSortsByCounterSaid :=
  OpenClaim.holds_of_wide 3 Try.f3 rfl rfl rfl rfl rfl rfl rfl ⟨rfl, rfl, rfl, rfl, rfl⟩ rfl rfl rfl rfl rfl (by kernel_rfl) Try.func3 (by kernel_rfl)
    (of_decide_eq_true (by kernel_rfl)) (by unfold Func.isWrapper; first | (rw [if_pos (by decide +kernel)]; kernel_rfl) | (rw [if_neg (by decide +kernel)]; exact ⟨rfl, rfl⟩))
    (fun os started H enc _ => sort_lifted os started H enc)
#print axioms sort_proved
end Go.Proofs.Qxb6609374a
