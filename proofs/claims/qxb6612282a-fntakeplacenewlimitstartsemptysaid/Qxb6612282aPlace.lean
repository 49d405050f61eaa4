import Derived.Test.Qxb6612282aRows
import Derived.WalkKit
import Derived.WalkSpells
import Derived.WalkLawsBesides
import Derived.Conc.LoneCalls
import Derived.Laws.LoneSync
import Derived.Laws.EntriesVeiled
namespace Go.Proofs.Qxb6612282a
open Go.RowKit
set_option linter.unusedVariables false
set_option linter.unusedSimpArgs false

set_option maxHeartbeats 400000 in
theorem load12 (b : Nat) (x : Int) (w : World) (h : w.cell? ⟨b, 0, none⟩ = some (.int .i64 x)) : Calls Try.prog 12 #[.pointer (some ⟨b, 0, none⟩)] w fun e w' => e = .returned (.int .i64 x) ∧ w = w' := by
  have hl := run_call_load (P := Try.prog) Try.func13 (by kernel_rfl) (by kernel_rfl) (by kernel_rfl) .i64 (by kernel_rfl) h
  go_enter Try.func12, Try.ntmps12
  go_wp2
  go_ret
  exact ⟨rfl, rfl⟩

set_option maxHeartbeats 400000 in
theorem running10 (b : Nat) (w : World) (h : w.cell? ⟨b, 0, none⟩ = some (.int .i64 0)) : Calls Try.prog 10 #[.pointer (some ⟨b, 0, none⟩)] w fun e w' => e = .returned (.bool false) ∧ w = w' := by
  go_enter Try.func10, Try.ntmps10
  go_wp2_with fail
  refine (load12 b 0 w h).mono ?_
  rintro e w' ⟨rfl, rfl⟩
  go_wp2
  go_ret
  exact ⟨rfl, rfl⟩

theorem equalIn_chan (w : World) (d : Nat) (r : Option Nat) : (Op.equalIn (d + 1) 49 (.chan r) (.chan none)).run Try.prog w = .ok r.isNone w := by
  cases r <;> simp [Op.equalIn, run_underlying Try.underlying49]
theorem neq_chan (w : World) (c : Nat) : (binOp .neq 49 (.chan (some c)) (.chan none)).run Try.prog w = .ok (.bool true) w := by
  simp only [binOp]
  simp [Op.equal, Op.maxDepth, equalIn_chan w 9999 (some c)]
theorem neq_nochan (w : World) : (binOp .neq 49 (.chan none) (.chan none)).run Try.prog w = .ok (.bool false) w := by
  simp only [binOp]
  simp [Op.equal, Op.maxDepth, equalIn_chan w 9999 none]

set_option maxHeartbeats 400000 in
theorem has7_yes (b c : Nat) (w : World) (h : w.cell? ⟨b, 13, none⟩ = some (.chan (some c))) : Calls Try.prog 7 #[.pointer (some ⟨b, 0, none⟩)] w fun e w' => e = .returned (.bool true) ∧ w = w' := by
  have hq := neq_chan
  go_enter Try.func7, Try.ntmps7
  go_wp2
  go_ret
  exact ⟨rfl, rfl⟩
set_option maxHeartbeats 400000 in
theorem has7_no (b : Nat) (w : World) (h : w.cell? ⟨b, 13, none⟩ = some (.chan none)) : Calls Try.prog 7 #[.pointer (some ⟨b, 0, none⟩)] w fun e w' => e = .returned (.bool false) ∧ w = w' := by
  have hq := neq_nochan
  go_enter Try.func7, Try.ntmps7
  go_wp2
  go_ret
  exact ⟨rfl, rfl⟩

theorem len_chan (w : World) (c cp : Nat) (buf : Array Value) (s r : Nat) (h : w.heap[c]? = some (.chan cp buf false s r false)) (ty : TypeId) : (Builtin.len_ #[49] ty #[.chan (some c)]).run Try.prog w = .ok (.int .i64 buf.size) w := by
  simp [Builtin.len_, run_underlying Try.underlying49, run_getObj_chan _ _ h, goInt, Result.andThen]
theorem len_nochan (w : World) (ty : TypeId) : (Builtin.len_ #[49] ty #[.chan none]).run Try.prog w = .ok (.int .i64 0) w := by
  simp [Builtin.len_, run_underlying Try.underlying49, go_sem, goInt, Result.andThen]
theorem cap_chan (w : World) (c cp : Nat) (buf : Array Value) (s r : Nat) (h : w.heap[c]? = some (.chan cp buf false s r false)) (ty : TypeId) : (Builtin.cap_ #[49] ty #[.chan (some c)]).run Try.prog w = .ok (.int .i64 cp) w := by
  simp [Builtin.cap_, run_underlying Try.underlying49, run_getObj_chan _ _ h, goInt, Result.andThen]
theorem cap_nochan (w : World) (ty : TypeId) : (Builtin.cap_ #[49] ty #[.chan none]).run Try.prog w = .ok (.int .i64 0) w := by
  simp [Builtin.cap_, run_underlying Try.underlying49, go_sem, goInt, Result.andThen]

set_option maxHeartbeats 400000 in
theorem len8_yes (b c cp : Nat) (buf : Array Value) (s r : Nat) (w : World) (h : w.cell? ⟨b, 13, none⟩ = some (.chan (some c))) (hc : w.heap[c]? = some (.chan cp buf false s r false)) : Calls Try.prog 8 #[.pointer (some ⟨b, 0, none⟩)] w fun e w' => e = .returned (.int .i64 buf.size) ∧ w = w' := by
  have hl := len_chan w c cp buf s r hc
  clear hc
  go_enter Try.func8, Try.ntmps8
  go_wp2
  go_ret
  exact ⟨rfl, rfl⟩
set_option maxHeartbeats 400000 in
theorem len8_no (b : Nat) (w : World) (h : w.cell? ⟨b, 13, none⟩ = some (.chan none)) : Calls Try.prog 8 #[.pointer (some ⟨b, 0, none⟩)] w fun e w' => e = .returned (.int .i64 0) ∧ w = w' := by
  have hl := len_nochan w
  go_enter Try.func8, Try.ntmps8
  go_wp2
  go_ret
  exact ⟨rfl, rfl⟩
set_option maxHeartbeats 400000 in
theorem cap9_yes (b c cp : Nat) (buf : Array Value) (s r : Nat) (w : World) (h : w.cell? ⟨b, 13, none⟩ = some (.chan (some c))) (hc : w.heap[c]? = some (.chan cp buf false s r false)) : Calls Try.prog 9 #[.pointer (some ⟨b, 0, none⟩)] w fun e w' => e = .returned (.int .i64 cp) ∧ w = w' := by
  have hl := cap_chan w c cp buf s r hc
  clear hc
  go_enter Try.func9, Try.ntmps9
  go_wp2
  go_ret
  exact ⟨rfl, rfl⟩
set_option maxHeartbeats 400000 in
theorem cap9_no (b : Nat) (w : World) (h : w.cell? ⟨b, 13, none⟩ = some (.chan none)) : Calls Try.prog 9 #[.pointer (some ⟨b, 0, none⟩)] w fun e w' => e = .returned (.int .i64 0) ∧ w = w' := by
  have hl := cap_nochan w
  go_enter Try.func9, Try.ntmps9
  go_wp2
  go_ret
  exact ⟨rfl, rfl⟩

theorem Try.info23 : (Try.prog.info? 23).map (·.bytes) = some 0 := by kernel_rfl
theorem make49 (n : Nat) (hn : n ≤ 65536) (w : World) : (Instr.makeChan 49 (.int .i64 (n : Int))).run Try.prog w = .ok (.chan (some w.heap.size)) (w.alloc (.chan n #[] false 0 0 false)) := by
  obtain ⟨i, hi, hb⟩ := Option.map_eq_some_iff.1 Try.info23
  exact Go.Conc.run_makeChan (P := Try.prog) (w := w) Try.underlying49 hi .i64 n (by omega) (by rw [hb]; omega)

set_option maxHeartbeats 400000 in
set_option maxRecDepth 100000 in
theorem set5_neg (b : Nat) (n : Int) (v : Value) (w : World) (hn : n < 0) (h0 : w.cell? ⟨b, 0, none⟩ = some (.int .i64 0)) (h : w.cell? ⟨b, 13, none⟩ = some v) (hf : w.frozen? ⟨b, 13, none⟩ = false) :
    Calls Try.prog 5 #[.pointer (some ⟨b, 0, none⟩), .int .i64 n] w fun e w' => e = .returned (.tuple #[]) ∧ w.setCell ⟨b, 13, none⟩ (.chan none) = w' := by
  go_enter Try.func5, Try.ntmps5
  go_wp2_with fail
  refine (running10 b w h0).mono ?_
  rintro e w' ⟨rfl, rfl⟩
  go_wp2
  first | go_end0 | refine bodyPost_ret (results_none rfl _ _ _) rfl ?_
  exact ⟨rfl, rfl⟩
set_option maxHeartbeats 400000 in
set_option maxRecDepth 100000 in
theorem set5_pos (b n : Nat) (v : Value) (w : World) (hn : n ≤ 65536) (h0 : w.cell? ⟨b, 0, none⟩ = some (.int .i64 0)) (h : w.cell? ⟨b, 13, none⟩ = some v) (hf : w.frozen? ⟨b, 13, none⟩ = false) (hb : b < w.heap.size) :
    Calls Try.prog 5 #[.pointer (some ⟨b, 0, none⟩), .int .i64 n] w fun e w' => e = .returned (.tuple #[]) ∧ (w.setCell ⟨b, 13, none⟩ (.chan (some w.heap.size))).alloc (.chan n #[] false 0 0 false) = w' := by
  have hmk := make49 n hn
  go_enter Try.func5, Try.ntmps5
  go_wp2_with fail
  refine (running10 b w h0).mono ?_
  rintro e w' ⟨rfl, rfl⟩
  go_wp2
  first | go_end0 | refine bodyPost_ret (results_none rfl _ _ _) rfl ?_
  exact ⟨rfl, rfl⟩

set_option maxHeartbeats 400000 in
theorem take11_no (b : Nat) (w : World) (h : w.cell? ⟨b, 13, none⟩ = some (.chan none)) : Calls Try.prog 11 #[.pointer (some ⟨b, 0, none⟩)] w fun e w' => e = .returned (.tuple #[]) ∧ w = w' := by
  have hq := neq_nochan
  go_enter Try.func11, Try.ntmps11
  go_wp2
  first | go_end0 | refine bodyPost_ret (results_none rfl _ _ _) rfl ?_
  exact ⟨rfl, rfl⟩

open Go.Conc in
set_option maxHeartbeats 400000 in
set_option maxRecDepth 100000 in
theorem take11_yes (b c cp : Nat) (buf : Array Value) (s r : Nat) (w : World) (h : w.cell? ⟨b, 13, none⟩ = some (.chan (some c))) (hc : w.heap[c]? = some (.chan cp buf false s r false)) (hroom : buf.size < cp) :
    Calls Try.prog 11 #[.pointer (some ⟨b, 0, none⟩)] w fun e w' => e = .returned (.tuple #[]) ∧ w.setChan c cp (buf.push (.agg #[])) false (s + 1) r false = w' := by
  refine calls_of_loneTo fun cs => ?_
  have e : Frame.enter Try.prog 11 #[.pointer (some ⟨b, 0, none⟩)] .normal = (base 11).at ⟨#[.pointer (some ⟨b, 0, none⟩), undef, undef, undef, undef, undef, undef, undef, undef, undef, undef, undef], []⟩ [.code (Try.f11.body.getD .skip)] := by
    simp [Frame.enter, Frame.at, Try.func11, base, Try.f11]
  rw [e]
  have hq := neq_chan
  refine LoneTo.goes (n := 15) ?_
  simp only [Try.f11, Option.getD_some]
  s_c stepG_seq
  s_reg
  s_op
  s_op
  s_op
  s_op
  s_op
  s_c stepG_region_end
  s_cond true
  s_reg
  s_op
  s_op
  s_op
  s_op
  s_op
  s_stop
  refine LoneTo.step (step_lone_send_room (c := c) (cap := cp) (buf := buf) (s := s) (r := r) (tm := false) (stepG_comm (cases := #[scase c (.agg #[]) (.tuple #[])]) (blocking := true) (shape := .send) (w' := w) rfl rfl (by decide) (by simp [execOp, scase, Act.eval])) hc hroom) ?_
  rw [Frame.finish_at]
  walk_nrm
  refine LoneTo.goes (n := 2) ?_
  s_c stepG_region_end
  s_c stepG_end
  s_stop
  refine LoneTo.done ⟨.returned (.tuple #[]), _, rfl, ⟨rfl, rfl⟩, rfl, rfl, rfl, rfl, _, Try.func11, by simp [results, Try.f11, Frame.at]⟩
end Go.Proofs.Qxb6612282a
