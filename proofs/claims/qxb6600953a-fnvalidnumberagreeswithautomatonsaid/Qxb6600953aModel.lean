/-
  ZZvalidNumber; the automaton: zzNumStep, zzNumAccepts, zzNumberModel.
-/
import Derived.Test.Qxb6600953aValid
namespace Go.Proofs.Qxb6600953a
open Go.RowKit

set_option maxHeartbeats 400000 in
theorem zzvalid14 (a : Option Addr) (len cap : Nat) (l : List Int) (i : Nat) (w : World) (h : BytesAt w (.slice a len cap) l) (hi : i < len) (h20 : len ≤ 1048576) :
    Calls Try.prog 14 #[.slice a len cap, .int .i64 (i : Int)] w fun e w' => e = .returned (.int .i64 (res i (l.drop i))) ∧ w = w' := by
  have hc := hide (valid24 a len cap l i w h hi h20)
  clear h
  go_enter Try.func14, Try.ntmps14
  go_wp2_with fail
  refine (unhide hc).mono ?_
  rintro e w' ⟨rfl, rfl⟩
  go_wp2
  go_ret
  exact ⟨rfl, rfl⟩

set_option maxRecDepth 100000 in
set_option maxHeartbeats 2000000 in
theorem step25 (st c : Int) (w : World) (h0 : 0 ≤ st) (h8 : st ≤ 8) (hc : 0 ≤ c) (hc' : c ≤ 255) :
    Calls Try.prog 25 #[.int .i64 st, .int .u8 c] w fun e w' => e = .returned (.int .i64 (step st c)) ∧ w = w' := by
  rcases (by omega : st = 0 ∨ st = 1 ∨ st = 2 ∨ st = 3 ∨ st = 4 ∨ st = 5 ∨ st = 6 ∨ st = 7 ∨ st = 8) with rfl | rfl | rfl | rfl | rfl | rfl | rfl | rfl | rfl
  all_goals
    clear h0 h8
    go_enter Try.func25, Try.ntmps25
    go_wp2
    all_goals go_ret
    all_goals refine ⟨ret_int ?_, rfl⟩
  all_goals
    try simp only [beq_iff_eq, beq_eq_false_iff_ne, ne_eq] at *
    unfold step
    simp
    try (first | omega | ((repeat (first | split | omega)); done))
end Go.Proofs.Qxb6600953a
