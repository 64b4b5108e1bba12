/-
  zzCmp: the order of octet strings.
-/
import Derived.Test.Qxb6600910aBase
import Derived.BigQuiet
import Derived.Deep.QuietTactic
import Derived.WalkSmall
namespace Go.Proofs.Qxb6600910a
open Go.RowKit

def cmpL : List Int → List Int → Int
  | [], [] => 0
  | [], _ :: _ => -1
  | _ :: _, [] => 1
  | a :: l, b :: m => if a = b then cmpL l m else if a < b then -1 else 1

/-- The first k octets are equal. -/
def CUp (l m : List Int) (k : Nat) : Prop := cmpL l m = cmpL (l.drop k) (m.drop k)

theorem CUp.zero (l m : List Int) : CUp l m 0 := rfl
theorem CUp.succ {l m : List Int} {k : Nat} {x : Int} (h : CUp l m k) (hl : l[k]? = some x) (hm : m[k]? = some x) : CUp l m (k + 1) := by
  obtain ⟨h1, e1⟩ := List.getElem?_eq_some_iff.1 hl
  obtain ⟨h2, e2⟩ := List.getElem?_eq_some_iff.1 hm
  unfold CUp at *
  rw [h, List.drop_eq_getElem_cons h1, List.drop_eq_getElem_cons h2, e1, e2]
  simp [cmpL]
theorem CUp.part {l m : List Int} {k : Nat} {x y : Int} (h : CUp l m k) (hl : l[k]? = some x) (hm : m[k]? = some y) (hne : x ≠ y) : cmpL l m = if x < y then -1 else 1 := by
  obtain ⟨h1, e1⟩ := List.getElem?_eq_some_iff.1 hl
  obtain ⟨h2, e2⟩ := List.getElem?_eq_some_iff.1 hm
  unfold CUp at h
  rw [h, List.drop_eq_getElem_cons h1, List.drop_eq_getElem_cons h2, e1, e2]
  simp [cmpL, hne]
theorem CUp.last {l m : List Int} {k : Nat} (h : CUp l m k) (hk : k = l.length ∨ k = m.length) (h1 : k ≤ l.length) (h2 : k ≤ m.length) : cmpL l m = if l.length < m.length then -1 else if m.length < l.length then 1 else 0 := by
  unfold CUp at h
  rw [h]
  have e1 : (l.drop k).length = l.length - k := List.length_drop
  have e2 : (m.drop k).length = m.length - k := List.length_drop
  cases g : l.drop k with
  | nil =>
    rw [g] at e1; simp at e1
    cases g2 : m.drop k with
    | nil => rw [g2] at e2; simp at e2; rw [if_neg (by omega), if_neg (by omega)]; rfl
    | cons b r => rw [g2] at e2; simp at e2; rw [if_pos (by omega)]; rfl
  | cons a r =>
    rw [g] at e1; simp at e1
    cases g2 : m.drop k with
    | nil => rw [g2] at e2; simp at e2; rw [if_neg (by omega), if_pos (by omega)]; rfl
    | cons b r => rw [g2] at e2; simp at e2; omega

theorem ret_int {k : IntKind} {a b : Int} (h : a = b) : Ending.returned (.int k a) = .returned (.int k b) := by rw [h]

set_option maxRecDepth 100000 in
set_option maxHeartbeats 1000000 in
theorem cmp40_n {ok ok' : Nat → Prop} (a a' : Option Addr) (len cap len' cap' : Nat) (l m : List Int) (w : World) (h : BytesIn ok w (.slice a len cap) l) (h' : BytesIn ok' w (.slice a' len' cap') m) (hlt0 : len' < len) :
    Calls Try.prog 40 #[.slice a len cap, .slice a' len' cap'] w fun e w' => e = .returned (.int .i64 (cmpL l m)) ∧ Below w.heap.size w w' := by
  obtain ⟨hlen, hlc, hcap⟩ := h.len
  obtain ⟨hlen', hlc', hcap'⟩ := h'.len
  unfold maxLen at hcap hcap'
  have hl63 : len ≤ 9223372036854775807 := by omega
  have hl63' : len' ≤ 9223372036854775807 := by omega
  have H : Hid (BytesIn ok w (.slice a len cap) l ∧ len = l.length) := ⟨h, hlen⟩
  have H' : Hid (BytesIn ok' w (.slice a' len' cap') m ∧ len' = m.length) := ⟨h', hlen'⟩
  clear h hlen hlc hcap h' hlen' hlc' hcap'
  go_enter Try.func40, Try.ntmps40
  go_wp2
  go_loopw [6] (fun i wr => ∃ k : Nat, k ≤ len' ∧ i = .int .i64 k ∧ CUp l m k ∧ Below w.heap.size w wr) (fun i _ => len' - (intOf i).toNat)
  case atStart => exact ⟨0, Nat.zero_le _, rfl, CUp.zero _ _, Below.refl _ _⟩
  case round =>
    obtain ⟨k, hk, rfl, hup, hbel⟩ := hrel
    by_cases hlt : k < len'
    · obtain ⟨b, o, x, rfl, hx, _, c0, _⟩ := H.out.1.at (i := k) (by omega)
      obtain ⟨b', o', y, rfl, hy, _, d0, _⟩ := H'.out.1.at hlt
      have c0' : wr.cell? ⟨b, o + k, none⟩ = some (.int .u8 x) := by rw [hbel.cell (by exact cell_lt c0)]; exact c0
      have d0' : wr.cell? ⟨b', o' + k, none⟩ = some (.int .u8 y) := by rw [hbel.cell (by exact cell_lt d0)]; exact d0
      clear c0 d0
      have hki : (k : Int) < (len : Int) := by omega
      have hki' : (k : Int) < (len' : Int) := by omega
      by_cases hxy : x = y
      · have hne : (x != y) = false := by simpa using hxy
        have R : Hid (CUp l m (k + 1)) := by subst hxy; exact hup.succ hx hy
        clear hxy hup hx hy
        go_wp2
        go_quiet (fail)
        go_wp2
        go_roundw
        case rel => exact ⟨k + 1, by omega, by go_num, R.out, below_drewN hbel _⟩
        case measure => simp [intOf]; omega
      · have hne : (x != y) = true := by simpa using hxy
        have R : Hid (cmpL l m = if x < y then -1 else 1) := hup.part hx hy hxy
        clear hxy hup hx hy
        by_cases hlt2 : x < y
        · go_wp2
          go_quiet (fail)
          go_wp2
          go_quiet (fail)
          go_wp2
          go_ret
          exact ⟨ret_int (by rw [R.out, if_pos hlt2]), below_drewN (below_drewN hbel _) _⟩
        · go_wp2
          go_quiet (fail)
          go_wp2
          go_quiet (fail)
          go_wp2
          go_ret
          exact ⟨ret_int (by rw [R.out, if_neg (by omega)]), below_drewN (below_drewN hbel _) _⟩
    · have R : Hid (cmpL l m = 1) := by
        have := hup.last (by have := H'.out.2; omega) (by have := H.out.2; have := H'.out.2; omega) (by have := H'.out.2; omega)
        rw [this, if_neg (by have := H.out.2; have := H'.out.2; omega), if_pos (by have := H.out.2; have := H'.out.2; omega)]; rfl
      clear hup
      go_wp2
      go_ret
      exact ⟨ret_int R.out.symm, hbel⟩
set_option maxRecDepth 100000 in
set_option maxHeartbeats 1000000 in
theorem cmp40_l {ok ok' : Nat → Prop} (a a' : Option Addr) (len cap len' cap' : Nat) (l m : List Int) (w : World) (h : BytesIn ok w (.slice a len cap) l) (h' : BytesIn ok' w (.slice a' len' cap') m) (hlt0 : ¬ len' < len) :
    Calls Try.prog 40 #[.slice a len cap, .slice a' len' cap'] w fun e w' => e = .returned (.int .i64 (cmpL l m)) ∧ Below w.heap.size w w' := by
  obtain ⟨hlen, hlc, hcap⟩ := h.len
  obtain ⟨hlen', hlc', hcap'⟩ := h'.len
  unfold maxLen at hcap hcap'
  have hl63 : len ≤ 9223372036854775807 := by omega
  have hl63' : len' ≤ 9223372036854775807 := by omega
  have H : Hid (BytesIn ok w (.slice a len cap) l ∧ len = l.length) := ⟨h, hlen⟩
  have H' : Hid (BytesIn ok' w (.slice a' len' cap') m ∧ len' = m.length) := ⟨h', hlen'⟩
  clear h hlen hlc hcap h' hlen' hlc' hcap'
  go_enter Try.func40, Try.ntmps40
  go_wp2
  go_loopw [6] (fun i wr => ∃ k : Nat, k ≤ len ∧ i = .int .i64 k ∧ CUp l m k ∧ Below w.heap.size w wr) (fun i _ => len - (intOf i).toNat)
  case atStart => exact ⟨0, Nat.zero_le _, rfl, CUp.zero _ _, Below.refl _ _⟩
  case round =>
    obtain ⟨k, hk, rfl, hup, hbel⟩ := hrel
    by_cases hlt : k < len
    · obtain ⟨b, o, x, rfl, hx, _, c0, _⟩ := H.out.1.at hlt
      obtain ⟨b', o', y, rfl, hy, _, d0, _⟩ := H'.out.1.at (i := k) (by omega)
      have c0' : wr.cell? ⟨b, o + k, none⟩ = some (.int .u8 x) := by rw [hbel.cell (by exact cell_lt c0)]; exact c0
      have d0' : wr.cell? ⟨b', o' + k, none⟩ = some (.int .u8 y) := by rw [hbel.cell (by exact cell_lt d0)]; exact d0
      clear c0 d0
      have hki : (k : Int) < (len : Int) := by omega
      have hki' : (k : Int) < (len' : Int) := by omega
      by_cases hxy : x = y
      · have hne : (x != y) = false := by simpa using hxy
        have R : Hid (CUp l m (k + 1)) := by subst hxy; exact hup.succ hx hy
        clear hxy hup hx hy
        go_wp2
        go_quiet (fail)
        go_wp2
        go_roundw
        case rel => exact ⟨k + 1, by omega, by go_num, R.out, below_drewN hbel _⟩
        case measure => simp [intOf]; omega
      · have hne : (x != y) = true := by simpa using hxy
        have R : Hid (cmpL l m = if x < y then -1 else 1) := hup.part hx hy hxy
        clear hxy hup hx hy
        by_cases hlt2 : x < y
        · go_wp2
          go_quiet (fail)
          go_wp2
          go_quiet (fail)
          go_wp2
          go_ret
          exact ⟨ret_int (by rw [R.out, if_pos hlt2]), below_drewN (below_drewN hbel _) _⟩
        · go_wp2
          go_quiet (fail)
          go_wp2
          go_quiet (fail)
          go_wp2
          go_ret
          exact ⟨ret_int (by rw [R.out, if_neg (by omega)]), below_drewN (below_drewN hbel _) _⟩
    · have hlast := hup.last (by have := H.out.2; omega) (by have := H.out.2; omega) (by have := H.out.2; have := H'.out.2; omega)
      by_cases hll : len < len'
      · have R : Hid (cmpL l m = -1) := by rw [hlast, if_pos (by have := H.out.2; have := H'.out.2; omega)]; exact rfl
        clear hup hlast
        go_wp2
        go_ret
        exact ⟨ret_int R.out.symm, hbel⟩
      · have R : Hid (cmpL l m = 0) := by rw [hlast, if_neg (by have := H.out.2; have := H'.out.2; omega), if_neg (by have := H.out.2; have := H'.out.2; omega)]; exact rfl
        clear hup hlast
        go_wp2
        go_ret
        exact ⟨ret_int R.out.symm, hbel⟩

theorem cmp40 {ok ok' : Nat → Prop} (v v' : Value) (l m : List Int) (w : World) (h : BytesIn ok w v l) (h' : BytesIn ok' w v' m) :
    Calls Try.prog 40 #[v, v'] w fun e w' => e = .returned (.int .i64 (cmpL l m)) ∧ Below w.heap.size w w' := by
  obtain ⟨a, cap, rfl, _⟩ := h.form
  obtain ⟨a', cap', rfl, _⟩ := h'.form
  by_cases hlt : m.length < l.length
  · exact cmp40_n a a' _ cap _ cap' l m w h h' hlt
  · exact cmp40_l a a' _ cap _ cap' l m w h h' hlt

theorem cmpL_self : ∀ l : List Int, cmpL l l = 0
  | [] => rfl
  | a :: l => by simp [cmpL, cmpL_self l]

theorem cmpL_zero : ∀ {l m : List Int}, cmpL l m = 0 → l = m
  | [], [], _ => rfl
  | [], _ :: _, h => by simp [cmpL] at h
  | _ :: _, [], h => by simp [cmpL] at h
  | a :: l, b :: m, h => by
    simp only [cmpL] at h
    split at h
    · rename_i e; rw [e, cmpL_zero h]
    · split at h <;> omega

end Go.Proofs.Qxb6600910a
