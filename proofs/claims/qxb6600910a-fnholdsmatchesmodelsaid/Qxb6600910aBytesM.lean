/-
  zzBytes_.. of the other laws of this seat.
-/
import Derived.Test.Qxb6600910aBytes
namespace Go.Proofs.Qxb6600910a
open Go.RowKit

set_option maxRecDepth 100000 in
set_option maxHeartbeats 4000000 in
theorem bytes10 {ok1 ok2 : Nat → Prop} (a1 a2 : Option Addr) (len1 cap1 len2 cap2 : Nat) (l m : List Tr) (w : World) (ht : TrsIn ok1 w (.slice a1 len1 cap1) l) (ht2 : TrsIn ok2 w (.slice a2 len2 cap2) m) :
    Calls Try.prog 10 #[.slice a1 len1 cap1, .slice a2 len2 cap2] w fun e w' => BRes (Small l ∧ Small m) e ∧ w = w' := by
  obtain ⟨hlen, hlc, hcap⟩ := ht.len
  obtain ⟨hlen2, hlc2, hcap2⟩ := ht2.len
  unfold maxLen at hcap hcap2
  have H1 : Hid (TrsIn ok1 w (.slice a1 len1 cap1) l ∧ len1 = l.length) := ⟨ht, hlen⟩
  have H2' : Hid (TrsIn ok2 w (.slice a2 len2 cap2) m ∧ len2 = m.length) := ⟨ht2, hlen2⟩
  clear ht hlen ht2 hlen2
  by_cases hbig : 1048576 < len1
  · go_enter Try.func10, Try.ntmps10
    go_wp2
    go_ret
    exact ⟨BRes.no, rfl⟩
  go_enter Try.func10, Try.ntmps10
  go_wp2
  go_loop [5, 6] (fun t i => ∃ (r : Int) (k : Nat), k ≤ len1 ∧ i = .int .i64 k ∧ t = .int .i64 r ∧ 0 ≤ r ∧ r ≤ 1048576 ∧ PartT l k) (fun _ i => len1 - (intOf i).toNat)
  case atStart => exact ⟨_, 0, Nat.zero_le _, rfl, rfl, by omega, by omega, PartT.zero l⟩
  case round =>
    obtain ⟨r, k, hk, rfl, rfl, h1, h2, hpt⟩ := hrel
    by_cases hlt : k < len1
    · obtain ⟨b, o, x, u, rfl, hx, _, c0, c1, c2, hu, _⟩ := H1.out.1.at hlt
      obtain ⟨ua, uc, rfl, hul, hum⟩ := hu.form
      unfold maxLen at hum
      have H2 : Hid (AttrsIn ok1 w (.slice ua x.ats.length uc) x.ats) := hu
      have HX : Hid (l[k]? = some x) := hx
      clear hu hx c0 c1
      by_cases hxb : 1048576 < x.ats.length
      · go_wp2
        go_ret
        exact ⟨BRes.no, rfl⟩
      by_cases hxs : 1048576 < r + x.ats.length
      · go_wp2
        go_ret
        exact ⟨BRes.no, rfl⟩
      go_wp2
      go_loop [5, 7] (fun t i => ∃ (q : Int) (j : Nat), j ≤ x.ats.length ∧ i = .int .i64 j ∧ t = .int .i64 q ∧ 0 ≤ q ∧ q ≤ 1048576 ∧ PartA x.ats j) (fun _ i => x.ats.length - (intOf i).toNat)
      case atStart => exact ⟨_, 0, Nat.zero_le _, rfl, rfl, by omega, by omega, PartA.zero _⟩
      case round =>
        clear h1 h2 hxs
        obtain ⟨q, j, hj, rfl, rfl, h1, h2, hpa⟩ := hrel
        by_cases hjl : j < x.ats.length
        · obtain ⟨b2, o2, y, u2, rfl, hy, _, d0, d1, d2, hv, _⟩ := H2.out.at hjl
          obtain ⟨va, vc, rfl, hvl, hvm⟩ := hv.form
          unfold maxLen at hvm
          have HY : Hid (x.ats[j]? = some y) := hy
          clear hv hy d0 d1
          by_cases hyb : 1048576 < y.val.length
          · go_wp2
            go_ret
            exact ⟨BRes.no, rfl⟩
          by_cases hys : 1048576 < q + y.val.length
          · go_wp2
            go_ret
            exact ⟨BRes.no, rfl⟩
          go_wp2
          go_round
          case rel => exact ⟨q + y.val.length, j + 1, by omega, by go_num, rfl, by omega, by omega, hpa.succ HY.out (by omega)⟩
          case measure => simp [intOf]; omega
        · have hje : j = x.ats.length := by omega
          have HS : Hid (SmallT x) := PartA.small (by rw [← hje]; exact hpa) (by omega)
          clear hje hpa
          go_wp2
          go_round
          case rel => exact ⟨q, k + 1, by omega, by go_num, rfl, h1, h2, hpt.succ HX.out HS.out⟩
          case measure => simp [intOf]; omega
    · have hke : k = l.length := by have := H1.out.2; omega
      have HS1 : Hid (Small l) := PartT.small (by rw [← hke]; exact hpt) (by have := H1.out.2; omega)
      clear hke hpt
      by_cases hsb : 1048576 < len2
      · go_wp2
        go_ret
        exact ⟨BRes.no, rfl⟩
      by_cases hss : 1048576 < r + len2
      · go_wp2
        go_ret
        exact ⟨BRes.no, rfl⟩
      go_wp2
      go_loop [5, 8] (fun t i => ∃ (r : Int) (k : Nat), k ≤ len2 ∧ i = .int .i64 k ∧ t = .int .i64 r ∧ 0 ≤ r ∧ r ≤ 1048576 ∧ PartT m k) (fun _ i => len2 - (intOf i).toNat)
      case atStart => exact ⟨_, 0, Nat.zero_le _, rfl, rfl, by omega, by omega, PartT.zero m⟩
      case round =>
        obtain ⟨r, k, hk, rfl, rfl, h1, h2, hpt⟩ := hrel
        by_cases hlt : k < len2
        · obtain ⟨b, o, x, u, rfl, hx, _, c0, c1, c2, hu, _⟩ := H2'.out.1.at hlt
          obtain ⟨ua, uc, rfl, hul, hum⟩ := hu.form
          unfold maxLen at hum
          have H2 : Hid (AttrsIn ok2 w (.slice ua x.ats.length uc) x.ats) := hu
          have HX : Hid (m[k]? = some x) := hx
          clear hu hx c0 c1
          by_cases hxb : 1048576 < x.ats.length
          · go_wp2
            go_ret
            exact ⟨BRes.no, rfl⟩
          by_cases hxs : 1048576 < r + x.ats.length
          · go_wp2
            go_ret
            exact ⟨BRes.no, rfl⟩
          go_wp2
          go_loop [5, 9] (fun t i => ∃ (q : Int) (j : Nat), j ≤ x.ats.length ∧ i = .int .i64 j ∧ t = .int .i64 q ∧ 0 ≤ q ∧ q ≤ 1048576 ∧ PartA x.ats j) (fun _ i => x.ats.length - (intOf i).toNat)
          case atStart => exact ⟨_, 0, Nat.zero_le _, rfl, rfl, by omega, by omega, PartA.zero _⟩
          case round =>
            clear h1 h2 hxs
            obtain ⟨q, j, hj, rfl, rfl, h1, h2, hpa⟩ := hrel
            by_cases hjl : j < x.ats.length
            · obtain ⟨b2, o2, y, u2, rfl, hy, _, d0, d1, d2, hv, _⟩ := H2.out.at hjl
              obtain ⟨va, vc, rfl, hvl, hvm⟩ := hv.form
              unfold maxLen at hvm
              have HY : Hid (x.ats[j]? = some y) := hy
              clear hv hy d0 d1
              by_cases hyb : 1048576 < y.val.length
              · go_wp2
                go_ret
                exact ⟨BRes.no, rfl⟩
              by_cases hys : 1048576 < q + y.val.length
              · go_wp2
                go_ret
                exact ⟨BRes.no, rfl⟩
              go_wp2
              go_round
              case rel => exact ⟨q + y.val.length, j + 1, by omega, by go_num, rfl, by omega, by omega, hpa.succ HY.out (by omega)⟩
              case measure => simp [intOf]; omega
            · have hje : j = x.ats.length := by omega
              have HS : Hid (SmallT x) := PartA.small (by rw [← hje]; exact hpa) (by omega)
              clear hje hpa
              go_wp2
              go_round
              case rel => exact ⟨q, k + 1, by omega, by go_num, rfl, h1, h2, hpt.succ HX.out HS.out⟩
              case measure => simp [intOf]; omega
        · have hke : k = m.length := by have := H2'.out.2; omega
          have HS2 : Hid (Small m) := PartT.small (by rw [← hke]; exact hpt) (by have := H2'.out.2; omega)
          clear hke hpt
          go_wp2
          go_ret
          exact ⟨BRes.yes ⟨HS1.out, HS2.out⟩, rfl⟩

end Go.Proofs.Qxb6600910a
