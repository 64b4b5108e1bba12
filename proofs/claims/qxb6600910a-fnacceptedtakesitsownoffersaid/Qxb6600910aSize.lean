/-
  zzAdd, zzAddN, zzSizeTransforms: they return some int from 0 to 1048577, and leave the world as it was.
-/
import Derived.Test.Qxb6600910aBase
namespace Go.Proofs.Qxb6600910a
open Go.RowKit

set_option maxHeartbeats 400000 in
theorem zzAdd_any (n k : Int) (w : World) (hn : 0 ≤ n) (hn' : n ≤ 1048577) (hk : 0 ≤ k) (hk' : k ≤ 9223372036854775807) :
    Calls Try.prog 25 #[.int .i64 n, .int .i64 k] w fun e w' => (∃ r, e = .returned (.int .i64 r) ∧ 0 ≤ r ∧ r ≤ 1048577) ∧ w = w' := by
  go_enter Try.func25, Try.ntmps25
  go_wp2
  all_goals go_ret
  all_goals exact ⟨⟨_, rfl, by omega, by omega⟩, rfl⟩

set_option maxHeartbeats 400000 in
theorem zzAddN_32 (n k : Int) (w : World) (hn : 0 ≤ n) (hn' : n ≤ 1048577) (hk : 0 ≤ k) (hk' : k ≤ 9223372036854775807) :
    Calls Try.prog 34 #[.int .i64 n, .int .i64 k, .int .i64 32] w fun e w' => (∃ r, e = .returned (.int .i64 r) ∧ 0 ≤ r ∧ r ≤ 1048577) ∧ w = w' := by
  by_cases h : 32768 < k
  · go_enter Try.func34, Try.ntmps34
    go_wp2_with fail
    go_ret
    exact ⟨⟨_, rfl, by omega, by omega⟩, rfl⟩
  · go_enter Try.func34, Try.ntmps34
    go_wp2_with (go_at_call 25; refine (zzAdd_any _ _ _ hn hn' (by omega) (by omega)).mono ?_; rintro e w' ⟨⟨r, rfl, h1, h2⟩, rfl⟩)
    go_ret
    exact ⟨⟨_, rfl, by omega, by omega⟩, rfl⟩

set_option maxHeartbeats 1000000 in
theorem zzSize_any {ok : Nat → Prop} (n : Int) (a : Option Addr) (len cap : Nat) (l : List Tr) (w : World) (hn : 0 ≤ n) (hn' : n ≤ 1048577) (ht : TrsIn ok w (.slice a len cap) l) :
    Calls Try.prog 11 #[.int .i64 n, .slice a len cap] w fun e w' => (∃ r, e = .returned (.int .i64 r) ∧ 0 ≤ r ∧ r ≤ 1048577) ∧ w = w' := by
  obtain ⟨hlen, hlc, hcap⟩ := ht.len
  unfold maxLen at hcap
  have H : Hid (TrsIn ok w (.slice a len cap) l) := ht
  clear ht hlen
  go_enter Try.func11, Try.ntmps11
  go_wp2_with (go_at_call 34; refine (zzAddN_32 _ _ _ hn hn' (by omega) (by omega)).mono ?_; rintro e w' ⟨⟨r, rfl, h1, h2⟩, rfl⟩)
  go_loop [0, 5] (fun t i => ∃ (r : Int) (k : Nat), k ≤ len ∧ i = .int .i64 k ∧ t = .int .i64 r ∧ 0 ≤ r ∧ r ≤ 1048577) (fun _ i => len - (intOf i).toNat)
  case atStart => exact ⟨r, 0, Nat.zero_le _, rfl, rfl, h1, h2⟩
  case round =>
    clear h1 h2 hn hn'
    obtain ⟨r, k, hk, rfl, rfl, h1, h2⟩ := hrel
    by_cases hlt : k < len
    · by_cases hr : r ≤ 1048576
      · obtain ⟨b, o, x, u, rfl, hx, _, c0, c1, c2, hu, _⟩ := H.out.at hlt
        obtain ⟨ua, uc, rfl, hul, hum⟩ := hu.form
        unfold maxLen at hum
        have H2 : Hid (AttrsIn ok w (.slice ua x.ats.length uc) x.ats) := hu
        clear hu H hx c0 c1
        go_wp2_with (go_at_call 34; refine (zzAddN_32 _ _ _ h1 h2 (by omega) (by omega)).mono ?_; rintro e w' ⟨⟨r', rfl, h1', h2'⟩, rfl⟩)
        go_loop [0, 7] (fun t i => ∃ (r : Int) (j : Nat), j ≤ x.ats.length ∧ i = .int .i64 j ∧ t = .int .i64 r ∧ 0 ≤ r ∧ r ≤ 1048577) (fun _ i => x.ats.length - (intOf i).toNat)
        case atStart => exact ⟨r', 0, Nat.zero_le _, rfl, rfl, h1', h2'⟩
        case round =>
          clear h1 h2 h1' h2'
          obtain ⟨q, j, hj, rfl, rfl, h1, h2⟩ := hrel
          by_cases hjl : j < x.ats.length
          · by_cases hq : q ≤ 1048576
            · obtain ⟨b2, o2, y, u2, rfl, hy, _, d0, d1, d2, hv, _⟩ := H2.out.at hjl
              obtain ⟨va, vc, rfl, hvl, hvm⟩ := hv.form
              unfold maxLen at hvm
              clear hv H2 hy d0 d1 c2
              go_wp2_with (go_at_call 25; refine (zzAdd_any _ _ _ h1 h2 (by omega) (by omega)).mono ?_; rintro e w' ⟨⟨q', rfl, h1', h2'⟩, rfl⟩)
              go_round
              case rel => exact ⟨q', j + 1, by omega, by go_num, rfl, h1', h2'⟩
              case measure => simp [intOf]; omega
            · go_wp2
              go_round
              case rel => exact ⟨q, k + 1, by omega, by go_num, rfl, h1, h2⟩
              case measure => simp [intOf]; omega
          · go_wp2
            go_round
            case rel => exact ⟨q, k + 1, by omega, by go_num, rfl, h1, h2⟩
            case measure => simp [intOf]; omega
      · go_wp2
        go_ret
        exact ⟨⟨r, rfl, h1, h2⟩, rfl⟩
    · go_wp2
      go_ret
      exact ⟨⟨r, rfl, h1, h2⟩, rfl⟩
end Go.Proofs.Qxb6600910a
