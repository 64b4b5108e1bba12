/-
  zzBytes_.. of the other laws of this seat.
-/
import Derived.Test.Qxb6600910aBytes
namespace Go.Proofs.Qxb6600910a
open Go.RowKit

set_option maxHeartbeats 2000000 in
theorem bytes24 {ok1 : Nat → Prop} (pr sl nu : Int) (a1 : Option Addr) (len1 cap1 : Nat) (l : List Tr) (sa : Option Addr) (sn sc : Nat) (w : World) (ht : TrsIn ok1 w (.slice a1 len1 cap1) l) (hsn : sn ≤ 9223372036854775807) :
    Calls Try.prog 24 #[.int .u8 pr, .int .i64 sl, .slice a1 len1 cap1, .int .u8 nu, .slice sa sn sc] w fun e w' => BRes (Small l ∧ sn ≤ 1048576) e ∧ w = w' := by
  obtain ⟨hlen, hlc, hcap⟩ := ht.len
  unfold maxLen at hcap
  have H1 : Hid (TrsIn ok1 w (.slice a1 len1 cap1) l ∧ len1 = l.length) := ⟨ht, hlen⟩
  clear ht hlen
  by_cases hbig : 1048576 < len1
  · go_enter Try.func24, Try.ntmps24
    go_wp2
    go_ret
    exact ⟨BRes.no, rfl⟩
  go_enter Try.func24, Try.ntmps24
  go_wp2
  go_loop [11, 12] (fun t i => ∃ (r : Int) (k : Nat), k ≤ len1 ∧ i = .int .i64 k ∧ t = .int .i64 r ∧ 0 ≤ r ∧ r ≤ 1048576 ∧ PartT l k) (fun _ i => len1 - (intOf i).toNat)
  case atStart => exact ⟨_, 0, Nat.zero_le _, rfl, rfl, by omega, by omega, PartT.zero l⟩
  case round =>
    obtain ⟨r, k, hk, rfl, rfl, h1, h2, hpt⟩ := hrel
    by_cases hlt : k < len1
    · obtain ⟨b, o, x, u, rfl, hx, _, c0, c1, c2, hu, _⟩ := H1.out.1.at hlt
      obtain ⟨ua, uc, rfl, hul, hum⟩ := hu.form
      unfold maxLen at hum
      have H2 : Hid (AttrsIn ok1 w (.slice ua x.ats.length uc) x.ats) := hu
      have HX : Hid (l[k]? = some x) := hx
      clear hu hx c0 c1
      by_cases hxb : 1048576 < x.ats.length
      · go_wp2
        go_ret
        exact ⟨BRes.no, rfl⟩
      by_cases hxs : 1048576 < r + x.ats.length
      · go_wp2
        go_ret
        exact ⟨BRes.no, rfl⟩
      go_wp2
      go_loop [11, 13] (fun t i => ∃ (q : Int) (j : Nat), j ≤ x.ats.length ∧ i = .int .i64 j ∧ t = .int .i64 q ∧ 0 ≤ q ∧ q ≤ 1048576 ∧ PartA x.ats j) (fun _ i => x.ats.length - (intOf i).toNat)
      case atStart => exact ⟨_, 0, Nat.zero_le _, rfl, rfl, by omega, by omega, PartA.zero _⟩
      case round =>
        clear h1 h2 hxs
        obtain ⟨q, j, hj, rfl, rfl, h1, h2, hpa⟩ := hrel
        by_cases hjl : j < x.ats.length
        · obtain ⟨b2, o2, y, u2, rfl, hy, _, d0, d1, d2, hv, _⟩ := H2.out.at hjl
          obtain ⟨va, vc, rfl, hvl, hvm⟩ := hv.form
          unfold maxLen at hvm
          have HY : Hid (x.ats[j]? = some y) := hy
          clear hv hy d0 d1
          by_cases hyb : 1048576 < y.val.length
          · go_wp2
            go_ret
            exact ⟨BRes.no, rfl⟩
          by_cases hys : 1048576 < q + y.val.length
          · go_wp2
            go_ret
            exact ⟨BRes.no, rfl⟩
          go_wp2
          go_round
          case rel => exact ⟨q + y.val.length, j + 1, by omega, by go_num, rfl, by omega, by omega, hpa.succ HY.out (by omega)⟩
          case measure => simp [intOf]; omega
        · have hje : j = x.ats.length := by omega
          have HS : Hid (SmallT x) := PartA.small (by rw [← hje]; exact hpa) (by omega)
          clear hje hpa
          go_wp2
          go_round
          case rel => exact ⟨q, k + 1, by omega, by go_num, rfl, h1, h2, hpt.succ HX.out HS.out⟩
          case measure => simp [intOf]; omega
    · have hke : k = l.length := by have := H1.out.2; omega
      have HS1 : Hid (Small l) := PartT.small (by rw [← hke]; exact hpt) (by have := H1.out.2; omega)
      clear hke hpt
      by_cases hsb : 1048576 < sn
      · go_wp2
        go_ret
        exact ⟨BRes.no, rfl⟩
      by_cases hss : 1048576 < r + sn
      · go_wp2
        go_ret
        exact ⟨BRes.no, rfl⟩
      go_wp2
      go_ret
      exact ⟨BRes.yes ⟨HS1.out, by omega⟩, rfl⟩

end Go.Proofs.Qxb6600910a
