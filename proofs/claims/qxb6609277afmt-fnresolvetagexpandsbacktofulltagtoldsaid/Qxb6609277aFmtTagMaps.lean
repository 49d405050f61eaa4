import Derived.Test.Qxb6609277aFmtCards
import Derived.WalkKit
import Derived.WalkSpells
import Derived.ProofKit
import Derived.OpenShut
import Derived.ShutString
import Derived.Stop.JoinedAt
import Derived.Stop.JoinedTold
import Derived.SevenToldRow
namespace Go.Proofs.Qxb6609277aFmt
open Go.ChangeShapes Go.WideShapes Go.ChangeAt Go.RowKit Go.WideElems Go.Maps
set_option linter.unusedVariables false

theorem Tryf.own : ownKnob Tryf.prog.godebug = none := by kernel_rfl
theorem Tryf.laidOut : laidOutB Tryf.prog = true := by kernel_rfl
theorem Tryf.laidOut' : laidOutB Tryf.pinned.checked.prog = true := by kernel_rfl
theorem Tryf.stops : Tryf.pinned.checked.prog.stops = Rows.fnResolveTagIdempotentAndHandleIsPrefixRow.stops := by kernel_rfl
theorem Tryf.stopKnobs : Tryf.pinned.checked.prog.stopKnobs = [] := by kernel_rfl
theorem Tryf.quiet (os : Os) : Stop.quiet Tryf.pinned.checked.prog os := by
  intro k hk
  rw [Tryf.stopKnobs] at hk
  cases hk
theorem law9 : Keyed Tryf.prog 9 := string_keyed Tryf.underlying9
theorem zero9 (w : World) : (zeroValue 9).run Tryf.prog w = .ok (.string ⟨#[]⟩) w := by kernel_rfl

/-- WHAT A WALK IS TOLD OF THE MAP THAT CAME IN: its length, and what a look-up gives, in whatever world lies 'Below'. -/
theorem looks {H : Type} {enc : TypeId × Value → H} {W : World} {base : Nat} {v0 : Value} {d0 : DataW H} {p0 : List MemPlace} (hv : Value.okWide Tryf.prog W .any base 22 v0) (h0 : DataW.Trod enc Tryf.prog W 0 (fun _ => true) true 22 v0 d0 p0) :
    ∃ (m : Option Nat) (L : Int), v0 = .map m ∧ (∀ ty, (Builtin.len_ #[22] ty #[.map m]).run Tryf.prog W = .ok (.int .i64 L) W) ∧
      ∀ hd : ByteArray, hd.size ≤ maxLen → ∃ (px : ByteArray) (ok : Bool), px.size ≤ maxLen ∧ ∀ wx : World, Below W.heap.size W wx → (Instr.lookup 22 (.map m) (.string hd) true).run Tryf.prog wx = .ok (.tuple #[.string px, .bool ok]) wx := by
  obtain ⟨m, rfl⟩ := okWide_map Tryf.underlying22 hv
  obtain ⟨fuel, hf⟩ := h0
  rcases open_map Tryf.underlying22 hf with ⟨hcs, hx⟩ | ⟨bm, es, clock, n, rfl, hcs, hb, _, F, hx⟩
  · simp [Value.cells] at hcs
    subst hcs
    refine ⟨none, 0, rfl, fun ty => Maps.len_nil Tryf.underlying22 ty, fun hd hz => ⟨⟨#[]⟩, false, by decide, fun wx _ => ?_⟩⟩
    have := Maps.look_nil (w := wx) true law9 Tryf.underlying22 (zero9 wx) (Go.WideMaps.keyOf_string_mk Tryf.underlying9 hz)
    simpa using this
  · simp [Value.cells] at hcs
    subst hcs
    have hown := World.ownsMap_of_fit (R := plainElem Tryf.prog 9) hb F (fun x _ z hz => elemAt_plainElem_string Tryf.underlying9 hz)
    generalize hD : DataW.map ((es.toList.map (rg Tryf.prog 9 (elemAt enc Tryf.prog W 0 (fun _ => true) true n 9))).foldr DataW.insert []) = D at hown
    have hlt : bm < W.heap.size := by
      rcases Nat.lt_or_ge bm W.heap.size with h | h
      · exact h
      · rw [Array.getElem?_eq_none h] at hb; cases hb
    refine ⟨some bm, Maps.size D, rfl, fun ty => hown.len Tryf.underlying22 ty, fun hd hz => ?_⟩
    have hz0 : plainElem (H := H) Tryf.prog 9 (.string ⟨#[]⟩) = some (.lit (.string []), []) := plainElem_string Tryf.underlying9 (by decide)
    have key := Go.WideMaps.keyOf_string_mk Tryf.underlying9 hz
    obtain ⟨v, ps, hrun, hR⟩ := hown.look_ok law9 Tryf.underlying22 (zero9 W) hz0 key
    obtain ⟨px, rfl, hpx, hpz⟩ := plainElem_string_inv Tryf.underlying9 hR
    refine ⟨px, Maps.has D (.string hd.data.toList), hpz, fun wx hbx => ?_⟩
    have hownx : wx.ownsMap Tryf.prog 9 (plainElem Tryf.prog 9) bm es.size D := by
      obtain ⟨es', c', g1, g2, g3, g4⟩ := hown
      exact ⟨es', c', (hbx.block bm hlt).trans g1, g2, g3, g4⟩
    obtain ⟨v', ps', hrun', hR'⟩ := hownx.look_ok law9 Tryf.underlying22 (zero9 wx) hz0 key
    obtain ⟨px', rfl, hpx', _⟩ := plainElem_string_inv Tryf.underlying9 hR'
    have e : px' = px := by
      have e1 := congrArg Prod.fst hpx
      have e2 := congrArg Prod.fst hpx'
      simp only at e1 e2
      rw [e1] at e2
      injection e2 with e3
      injection e3 with e4
      exact (bytes_inj e4).symm
    rw [e] at hrun'
    exact hrun'

end Go.Proofs.Qxb6609277aFmt
