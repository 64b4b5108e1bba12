/-
  The automaton, run: zzNumAccepts, zzNumberModel.
-/
import Derived.Test.Qxb6600953aModel
namespace Go.Proofs.Qxb6600953a
open Go.RowKit

set_option maxRecDepth 100000 in
set_option maxHeartbeats 1000000 in
theorem acc26 (st : Int) (w : World) (h0 : 0 ≤ st) (h8 : st ≤ 8) :
    Calls Try.prog 26 #[.int .i64 st] w fun e w' => e = .returned (.bool (acc st)) ∧ w = w' := by
  rcases (by omega : st = 0 ∨ st = 1 ∨ st = 2 ∨ st = 3 ∨ st = 4 ∨ st = 5 ∨ st = 6 ∨ st = 7 ∨ st = 8) with rfl | rfl | rfl | rfl | rfl | rfl | rfl | rfl | rfl
  all_goals
    clear h0 h8
    go_enter Try.func26, Try.ntmps26
    go_wp2
    go_ret
    exact ⟨rfl, rfl⟩

theorem step_range (st c : Int) : -1 ≤ step st c ∧ step st c ≤ 8 := by
  unfold step
  repeat' split
  all_goals omega

/-- The automaton has come from the start, at place i, to the state st, at place j. -/
def MUp (l : List Int) (i : Nat) (st : Int) (j : Nat) : Prop := run 0 (l.drop i) = ((run st (l.drop j)).1, (run st (l.drop j)).2 + (j - i)) ∧ i ≤ j
theorem MUp.zero (l : List Int) (i : Nat) : MUp l i 0 i := ⟨by simp, Nat.le_refl _⟩
theorem MUp.move {l : List Int} {i : Nat} {st : Int} {j : Nat} {c : Int} (h : MUp l i st j) (hc : l[j]? = some c) (hm : 0 ≤ step st c) : MUp l i (step st c) (j + 1) := by
  obtain ⟨h1, h2⟩ := h
  refine ⟨?_, by omega⟩
  rw [h1, drop_cons hc, run, if_neg (by omega)]
  simp only [Prod.mk.injEq, true_and]
  omega
theorem MUp.stop {l : List Int} {i : Nat} {st : Int} {j : Nat} {c : Int} (h : MUp l i st j) (hc : l[j]? = some c) (hm : step st c < 0) : run 0 (l.drop i) = (st, j - i) := by
  rw [h.1, drop_cons hc, run, if_pos hm]; simp
theorem MUp.last {l : List Int} {i : Nat} {st : Int} {j : Nat} (h : MUp l i st j) (hj : l.length ≤ j) : run 0 (l.drop i) = (st, j - i) := by
  rw [h.1, List.drop_eq_nil_of_le hj]; simp [run]

theorem res_of_run {l : List Int} {i j : Nat} {st : Int} (h : run 0 (l.drop i) = (st, j - i)) (hij : i ≤ j) : res i (l.drop i) = if acc st then (j : Int) else -1 := by
  rw [res_eq, ← out0, h]
  unfold out
  split
  · simp only [resO]; omega
  · rfl

set_option maxRecDepth 100000 in
set_option maxHeartbeats 1000000 in
theorem model15 (a : Option Addr) (len cap : Nat) (l : List Int) (i : Nat) (w : World) (h : BytesAt w (.slice a len cap) l) (hi : i ≤ len) :
    Calls Try.prog 15 #[.slice a len cap, .int .i64 (i : Int)] w fun e w' => e = .returned (.int .i64 (res i (l.drop i))) ∧ w = w' := by
  obtain ⟨hlen, hlc, hcap⟩ := h.len
  unfold maxLen at hcap
  have hl63 : len ≤ 9223372036854775807 := by omega
  have H : Hid (BytesAt w (.slice a len cap) l ∧ len = l.length) := ⟨h, hlen⟩
  clear h hlen hlc hcap
  go_enter Try.func15, Try.ntmps15
  go_wp2
  go_loop [5, 6] (fun s t => ∃ (st : Int) (j : Nat), j ≤ len ∧ t = .int .i64 j ∧ s = .int .i64 st ∧ 0 ≤ st ∧ st ≤ 8 ∧ MUp l i st j) (fun _ t => len - (intOf t).toNat)
  case atStart => exact ⟨0, i, hi, rfl, rfl, by omega, by omega, MUp.zero l i⟩
  case round =>
    obtain ⟨st, j, hj, rfl, rfl, h0, h8, hup⟩ := hrel
    have hij := hup.2
    have fin : Hid (run 0 (l.drop i) = (st, j - i) → (acc st = true → res i (l.drop i) = (j : Int)) ∧ (acc st = false → res i (l.drop i) = -1)) := fun hr =>
      ⟨fun g => by rw [res_of_run hr hij, if_pos g], fun g => by rw [res_of_run hr hij, g]; rfl⟩
    by_cases hlt : j < len
    · obtain ⟨b, o, c, rfl, hc, c0, hc0, hc1⟩ := H.out.1.at hlt
      have hsr := step_range st c
      by_cases hm : step st c < 0
      · have R := fin.out (hup.stop hc hm)
        have RR := hide R
        clear hup hc fin R
        cases ha : acc st with
        | true =>
          go_wp2_with (first
            | (go_at_call 25; refine (step25 st c _ h0 h8 hc0 hc1).mono ?_; rintro e w' ⟨rfl, rfl⟩)
            | (go_at_call 26; refine (acc26 st _ h0 h8).mono ?_; rintro e w' ⟨rfl, rfl⟩))
          go_ret
          exact ⟨ret_int (RR.out.1 ha).symm, rfl⟩
        | false =>
          go_wp2_with (first
            | (go_at_call 25; refine (step25 st c _ h0 h8 hc0 hc1).mono ?_; rintro e w' ⟨rfl, rfl⟩)
            | (go_at_call 26; refine (acc26 st _ h0 h8).mono ?_; rintro e w' ⟨rfl, rfl⟩))
          go_ret
          exact ⟨ret_int (RR.out.2 ha).symm, rfl⟩
      · have R := hide (hup.move hc (by omega))
        clear hup hc fin
        go_wp2_with (go_at_call 25; refine (step25 st c _ h0 h8 hc0 hc1).mono ?_; rintro e w' ⟨rfl, rfl⟩)
        go_round
        case rel => exact ⟨step st c, j + 1, by omega, by go_num, rfl, by omega, by omega, R.out⟩
        case measure => simp [intOf]; omega
    · have R := fin.out (hup.last (by have := H.out.2; omega))
      have RR := hide R
      clear hup fin R
      cases ha : acc st with
      | true =>
        go_wp2_with (go_at_call 26; refine (acc26 st _ h0 h8).mono ?_; rintro e w' ⟨rfl, rfl⟩)
        go_ret
        exact ⟨ret_int (RR.out.1 ha).symm, rfl⟩
      | false =>
        go_wp2_with (go_at_call 26; refine (acc26 st _ h0 h8).mono ?_; rintro e w' ⟨rfl, rfl⟩)
        go_ret
        exact ⟨ret_int (RR.out.2 ha).symm, rfl⟩
end Go.Proofs.Qxb6600953a
