/-
  zzCmp once more: it only draws.
-/
import Derived.Test.Qxb6600910aCmp
namespace Go.Proofs.Qxb6600910a
open Go.RowKit

set_option maxRecDepth 100000 in
set_option maxHeartbeats 1000000 in
theorem cmp40q_n {ok ok' : Nat → Prop} (a a' : Option Addr) (len cap len' cap' : Nat) (l m : List Int) (w : World) (h : BytesIn ok w (.slice a len cap) l) (h' : BytesIn ok' w (.slice a' len' cap') m) (hlt0 : len' < len) :
    Calls Try.prog 40 #[.slice a len cap, .slice a' len' cap'] w fun e w' => e = .returned (.int .i64 (cmpL l m)) ∧ ∃ n, w' = w.drewN n := by
  obtain ⟨hlen, hlc, hcap⟩ := h.len
  obtain ⟨hlen', hlc', hcap'⟩ := h'.len
  unfold maxLen at hcap hcap'
  have hl63 : len ≤ 9223372036854775807 := by omega
  have hl63' : len' ≤ 9223372036854775807 := by omega
  have H : Hid (BytesIn ok w (.slice a len cap) l ∧ len = l.length) := ⟨h, hlen⟩
  have H' : Hid (BytesIn ok' w (.slice a' len' cap') m ∧ len' = m.length) := ⟨h', hlen'⟩
  clear h hlen hlc hcap h' hlen' hlc' hcap'
  go_enter Try.func40, Try.ntmps40
  go_wp2
  go_loopw [6] (fun i wr => ∃ k nd : Nat, k ≤ len' ∧ i = .int .i64 k ∧ CUp l m k ∧ wr = w.drewN nd) (fun i _ => len' - (intOf i).toNat)
  case atStart => exact ⟨0, 0, Nat.zero_le _, rfl, CUp.zero _ _, rfl⟩
  case round =>
    obtain ⟨k, nd, hk, rfl, hup, rfl⟩ := hrel
    by_cases hlt : k < len'
    · obtain ⟨b, o, x, rfl, hx, _, c0, _⟩ := H.out.1.at (i := k) (by omega)
      obtain ⟨b', o', y, rfl, hy, _, d0, _⟩ := H'.out.1.at hlt
      have c0' : w.cell? ⟨b, o + k, none⟩ = some (.int .u8 x) := c0
      have d0' : w.cell? ⟨b', o' + k, none⟩ = some (.int .u8 y) := d0
      clear c0 d0
      have hki : (k : Int) < (len : Int) := by omega
      have hki' : (k : Int) < (len' : Int) := by omega
      by_cases hxy : x = y
      · have hne : (x != y) = false := by simpa using hxy
        have R : Hid (CUp l m (k + 1)) := by subst hxy; exact hup.succ hx hy
        clear hxy hup hx hy
        go_wp2
        go_quiet (fail)
        go_wp2
        go_roundw
        case rel => exact ⟨k + 1, _, by omega, by go_num, R.out, rfl⟩
        case measure => simp [intOf]; omega
      · have hne : (x != y) = true := by simpa using hxy
        have R : Hid (cmpL l m = if x < y then -1 else 1) := hup.part hx hy hxy
        clear hxy hup hx hy
        by_cases hlt2 : x < y
        · go_wp2
          go_quiet (fail)
          go_wp2
          go_quiet (fail)
          go_wp2
          go_ret
          exact ⟨ret_int (by rw [R.out, if_pos hlt2]), _, by rw [World.drewN_drewN, World.drewN_drewN]⟩
        · go_wp2
          go_quiet (fail)
          go_wp2
          go_quiet (fail)
          go_wp2
          go_ret
          exact ⟨ret_int (by rw [R.out, if_neg (by omega)]), _, by rw [World.drewN_drewN, World.drewN_drewN]⟩
    · have R : Hid (cmpL l m = 1) := by
        have := hup.last (by have := H'.out.2; omega) (by have := H.out.2; have := H'.out.2; omega) (by have := H'.out.2; omega)
        rw [this, if_neg (by have := H.out.2; have := H'.out.2; omega), if_pos (by have := H.out.2; have := H'.out.2; omega)]; rfl
      clear hup
      go_wp2
      go_ret
      exact ⟨ret_int R.out.symm, _, rfl⟩
set_option maxRecDepth 100000 in
set_option maxHeartbeats 1000000 in
theorem cmp40q_l {ok ok' : Nat → Prop} (a a' : Option Addr) (len cap len' cap' : Nat) (l m : List Int) (w : World) (h : BytesIn ok w (.slice a len cap) l) (h' : BytesIn ok' w (.slice a' len' cap') m) (hlt0 : ¬ len' < len) :
    Calls Try.prog 40 #[.slice a len cap, .slice a' len' cap'] w fun e w' => e = .returned (.int .i64 (cmpL l m)) ∧ ∃ n, w' = w.drewN n := by
  obtain ⟨hlen, hlc, hcap⟩ := h.len
  obtain ⟨hlen', hlc', hcap'⟩ := h'.len
  unfold maxLen at hcap hcap'
  have hl63 : len ≤ 9223372036854775807 := by omega
  have hl63' : len' ≤ 9223372036854775807 := by omega
  have H : Hid (BytesIn ok w (.slice a len cap) l ∧ len = l.length) := ⟨h, hlen⟩
  have H' : Hid (BytesIn ok' w (.slice a' len' cap') m ∧ len' = m.length) := ⟨h', hlen'⟩
  clear h hlen hlc hcap h' hlen' hlc' hcap'
  go_enter Try.func40, Try.ntmps40
  go_wp2
  go_loopw [6] (fun i wr => ∃ k nd : Nat, k ≤ len ∧ i = .int .i64 k ∧ CUp l m k ∧ wr = w.drewN nd) (fun i _ => len - (intOf i).toNat)
  case atStart => exact ⟨0, 0, Nat.zero_le _, rfl, CUp.zero _ _, rfl⟩
  case round =>
    obtain ⟨k, nd, hk, rfl, hup, rfl⟩ := hrel
    by_cases hlt : k < len
    · obtain ⟨b, o, x, rfl, hx, _, c0, _⟩ := H.out.1.at hlt
      obtain ⟨b', o', y, rfl, hy, _, d0, _⟩ := H'.out.1.at (i := k) (by omega)
      have c0' : w.cell? ⟨b, o + k, none⟩ = some (.int .u8 x) := c0
      have d0' : w.cell? ⟨b', o' + k, none⟩ = some (.int .u8 y) := d0
      clear c0 d0
      have hki : (k : Int) < (len : Int) := by omega
      have hki' : (k : Int) < (len' : Int) := by omega
      by_cases hxy : x = y
      · have hne : (x != y) = false := by simpa using hxy
        have R : Hid (CUp l m (k + 1)) := by subst hxy; exact hup.succ hx hy
        clear hxy hup hx hy
        go_wp2
        go_quiet (fail)
        go_wp2
        go_roundw
        case rel => exact ⟨k + 1, _, by omega, by go_num, R.out, rfl⟩
        case measure => simp [intOf]; omega
      · have hne : (x != y) = true := by simpa using hxy
        have R : Hid (cmpL l m = if x < y then -1 else 1) := hup.part hx hy hxy
        clear hxy hup hx hy
        by_cases hlt2 : x < y
        · go_wp2
          go_quiet (fail)
          go_wp2
          go_quiet (fail)
          go_wp2
          go_ret
          exact ⟨ret_int (by rw [R.out, if_pos hlt2]), _, by rw [World.drewN_drewN, World.drewN_drewN]⟩
        · go_wp2
          go_quiet (fail)
          go_wp2
          go_quiet (fail)
          go_wp2
          go_ret
          exact ⟨ret_int (by rw [R.out, if_neg (by omega)]), _, by rw [World.drewN_drewN, World.drewN_drewN]⟩
    · have hlast := hup.last (by have := H.out.2; omega) (by have := H.out.2; omega) (by have := H.out.2; have := H'.out.2; omega)
      by_cases hll : len < len'
      · have R : Hid (cmpL l m = -1) := by rw [hlast, if_pos (by have := H.out.2; have := H'.out.2; omega)]; exact rfl
        clear hup hlast
        go_wp2
        go_ret
        exact ⟨ret_int R.out.symm, _, rfl⟩
      · have R : Hid (cmpL l m = 0) := by rw [hlast, if_neg (by have := H.out.2; have := H'.out.2; omega), if_neg (by have := H.out.2; have := H'.out.2; omega)]; exact rfl
        clear hup hlast
        go_wp2
        go_ret
        exact ⟨ret_int R.out.symm, _, rfl⟩

theorem cmp40q {ok ok' : Nat → Prop} (v v' : Value) (l m : List Int) (w : World) (h : BytesIn ok w v l) (h' : BytesIn ok' w v' m) :
    Calls Try.prog 40 #[v, v'] w fun e w' => e = .returned (.int .i64 (cmpL l m)) ∧ ∃ n, w' = w.drewN n := by
  obtain ⟨a, cap, rfl, _⟩ := h.form
  obtain ⟨a', cap', rfl, _⟩ := h'.form
  by_cases hlt : m.length < l.length
  · exact cmp40q_n a a' _ cap _ cap' l m w h h' hlt
  · exact cmp40q_l a a' _ cap _ cap' l m w h h' hlt

end Go.Proofs.Qxb6600910a
