import Derived.Test.Qxb6609277aFmtTagLaw3
import Derived.Test.Qxb6609277aFmtTagMaps
namespace Go.Proofs.Qxb6609277aFmt
open Go.ChangeShapes Go.WideShapes Go.ChangeAt Go.RowKit Go.WideElems Go.Maps
open Go.ChangeMaps (open_string shut_string)
set_option linter.unusedVariables false

/-- THE LAW's WALK, every input. -/
theorem law3 (m : Option Nat) (h : Bool) (tag hd : ByteArray) (L : Int) (w : World) (htz : tag.size ≤ maxLen) (hdz : hd.size ≤ maxLen)
    (hlen : ∀ ty, (Builtin.len_ #[22] ty #[.map m]).run Tryf.prog w = .ok (.int .i64 L) w)
    (hl : ∀ hd : ByteArray, hd.size ≤ maxLen → ∃ (px : ByteArray) (ok : Bool), px.size ≤ maxLen ∧ ∀ wx : World, Below w.heap.size w wx → (Instr.lookup 22 (.map m) (.string hd) true).run Tryf.prog wx = .ok (.tuple #[.string px, .bool ok]) wx) :
    Calls Tryf.prog 3 #[.map m, .bool h, .string tag, .string hd] w fun e w' => e = .returned (.bool true) ∧ Below w.heap.size w w' := by
  by_cases hbig : 65536 < tag.size ∨ (tag.size ≤ 65536 ∧ 65536 < hd.size) ∨ (tag.size ≤ 65536 ∧ hd.size ≤ 65536 ∧ 65536 < L)
  · exact (law3_early m h tag hd L w htz hdz hlen hbig).mono fun e w' ⟨he, hw⟩ => ⟨he, hw ▸ Below.refl _ _⟩
  have h1 : tag.size ≤ 65536 := by omega
  have h2 : hd.size ≤ 65536 := by omega
  have h3 : L ≤ 65536 := by omega
  cases h with
  | false => exact law3_none m tag hd L w h1 h2 h3 hlen
  | true =>
    cases hne : hd.toList.isEmpty with
    | true =>
      have e : hd = ⟨#[]⟩ := bytes_inj (by rw [ByteArray.toList_eq] at hne; simpa using hne)
      subst e
      exact law3_bare m tag L w h1 h3 hlen
    | false =>
      obtain ⟨px, ok, hpz, hlk⟩ := hl hd hdz
      by_cases hok : ok = false ∨ (ok = true ∧ 65536 < px.size)
      · exact (law3_absent m tag hd px L w h1 h2 h3 hne hpz hlen ok hok (hlk w (Below.refl _ _))).mono fun e w' ⟨he, hw⟩ => ⟨he, hw ▸ Below.refl _ _⟩
      · have e : ok = true := by
          cases ok
          · exact absurd (Or.inl rfl) hok
          · rfl
        subst e
        exact law3_handle m tag hd px L w h1 h2 h3 hne (by simp at hok; exact hok) hlen hlk

set_option maxRecDepth 100000 in
theorem lifted3 (os : Os) (started : os.Started) (H : Type) (enc : TypeId × Value → H) :
    ReturnsInTold none {} Tryf.checked os 3 .any Input.okWide ((OpenSpec.ofChange Rows.fnResolveTagExpandsBackToFullTagSpec).preRow enc Tryf.prog Tryf.f3 [] false []) (fun F => ((OpenSpec.ofChange Rows.fnResolveTagExpandsBackToFullTagSpec).at F).post enc Tryf.prog Tryf.f3 false true false false) (aloneAtReturn Tryf.prog) nothingAlways := by
  refine returnsInTold_of_row (C := Tryf.checked) (s := OpenSpec.ofChange Rows.fnResolveTagExpandsBackToFullTagSpec) (by kernel_rfl) Tryf.own started (by kernel_rfl) Tryf.func3
    (OpenSpec.witness_stopped (enc := enc) (C := Tryf.checked) false ⟨#[], #[.map none, .bool false, .string ⟨#[]⟩, .string ⟨#[]⟩], []⟩ 8 (by kernel_rfl) (by kernel_rfl) (by kernel_rfl) (by kernel_rfl)) ?_
  intro F W base args ds gs before _ hF hval0 hW _ _ _ _ _
  have hval : ∀ (j : Nat) t v, Tryf.f3.params[j]? = some t → args[j]? = some v → Value.okWide Tryf.prog W .any base t v := hval0
  have hW' := hW
  obtain ⟨p, q, hA0, hV, rfl, hfz, hnd⟩ := hW
  have hA : DataW.TrodAll enc Tryf.prog W 0 (fun _ => true) true Tryf.f3.params.toList args.toList ds p := hA0
  rw [Tryf.params3] at hA hval
  obtain ⟨v0, v1, v2, v3, d0, d1, d2, d3, p0, p1, p2, p3, rfl, rfl, rfl, h0, h1, h2, h3⟩ := trodAll_four hA
  obtain ⟨rfl, rfl⟩ := trodVars_none hV
  have h0k := h0
  obtain ⟨m, L, rfl, hlen, hlk⟩ := looks (hval 0 22 v0 rfl rfl) h0
  obtain ⟨b, rfl, rfl, rfl⟩ := open_bool Tryf.underlying4 (hval 1 4 v1 rfl rfl) h1
  obtain ⟨tag, rfl, rfl, rfl, htz⟩ := open_string Tryf.underlying9 (hval 2 9 v2 rfl rfl) h2
  obtain ⟨hd, rfl, rfl, rfl, hdz⟩ := open_string Tryf.underlying9 (hval 3 9 v3 rfl rfl) h3
  clear hA0 hval0
  have hlt : ∀ x ∈ p0, x.block < W.heap.size := fun x hx => hW'.lt x (by simp [hx])
  refine (law3 m b tag hd L W htz hdz hlen hlk).mono fun e W' ⟨he, hB⟩ => ?_
  subst he
  refine ⟨_, rfl, _, _, _, [], p0 ++ ([] ++ ([] ++ [])), [], hW', ?_, ?_, rfl, hB.frame _, fun h => by cases h⟩
  · exact trodAll_mk1 (shut_bool Tryf.underlying4 _)
  · exact trodAll_mk4 (Below.trod Tryf.laidOut (by kernel_rfl) (of_decide_eq_true (by kernel_rfl)) h0k hB hlt) (shut_bool Tryf.underlying4 _) (shut_string Tryf.underlying9 htz) (shut_string Tryf.underlying9 hdz)

theorem proved3 : Rows.FnResolveTagExpandsBackToFullTagToldSaid :=
  Claim7.holds_of_told_any 3 Tryf.f3 _ _ [] _ _ _ (by kernel_rfl) rfl rfl rfl Tryf.laidOut' (by kernel_rfl) rfl ⟨rfl, rfl, rfl, rfl, rfl, rfl, rfl⟩ rfl rfl (by kernel_rfl) (by kernel_rfl) Tryf.func3 (by kernel_rfl)
    (of_decide_eq_true (by kernel_rfl)) (of_decide_eq_true (by kernel_rfl)) Tryf.stops.symm rfl Tryf.stopKnobs.symm (by kernel_rfl)
    (by kernel_rfl) (by kernel_rfl) (by kernel_rfl) (by kernel_rfl) (by kernel_rfl) (by kernel_rfl) (by kernel_rfl) (by kernel_rfl) (by kernel_rfl) rfl (by kernel_rfl) rfl rfl
    rfl rfl
    rfl (by kernel_rfl) (by kernel_rfl) (by kernel_rfl) (by decide) (by kernel_rfl)
    (OpenClaim.moreEntering_of (by kernel_rfl) (by kernel_rfl) (by kernel_rfl) (by kernel_rfl) (by kernel_rfl) (by kernel_rfl) (by kernel_rfl) (by kernel_rfl) (by kernel_rfl) (by kernel_rfl))
    ⟨_, WideRow.started_initial, Tryf.quiet _⟩
    (fun os started _ H enc _ => lifted3 os started H enc)
#print axioms proved3
end Go.Proofs.Qxb6609277aFmt
