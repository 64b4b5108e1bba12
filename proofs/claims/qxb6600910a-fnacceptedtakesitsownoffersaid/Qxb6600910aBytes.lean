/-
  zzBytes_..: the bound on total length that was laid by program: where it says true, every length on the road is at most 1<<20. The world is as it was.
-/
import Derived.Test.Qxb6600910aBase
namespace Go.Proofs.Qxb6600910a
open Go.RowKit

def SmallT (t : Tr) : Prop := t.ats.length ≤ 1048576 ∧ ∀ (i : Nat) (a : Attr), t.ats[i]? = some a → a.val.length ≤ 1048576
def Small (l : List Tr) : Prop := l.length ≤ 1048576 ∧ ∀ (i : Nat) (t : Tr), l[i]? = some t → SmallT t
def PartT (l : List Tr) (k : Nat) : Prop := ∀ (j : Nat) (t : Tr), j < k → l[j]? = some t → SmallT t
def PartA (l : List Attr) (k : Nat) : Prop := ∀ (j : Nat) (a : Attr), j < k → l[j]? = some a → a.val.length ≤ 1048576

theorem PartT.zero (l : List Tr) : PartT l 0 := fun j t h => by omega
theorem PartA.zero (l : List Attr) : PartA l 0 := fun j t h => by omega
theorem PartT.succ {l : List Tr} {k : Nat} {t : Tr} (h : PartT l k) (ht : l[k]? = some t) (hs : SmallT t) : PartT l (k + 1) := fun j t' hj hj' => by
  by_cases e : j = k
  · subst e; rw [ht] at hj'; injection hj' with hj'; subst hj'; exact hs
  · exact h j t' (by omega) hj'
theorem PartA.succ {l : List Attr} {k : Nat} {t : Attr} (h : PartA l k) (ht : l[k]? = some t) (hs : t.val.length ≤ 1048576) : PartA l (k + 1) := fun j t' hj hj' => by
  by_cases e : j = k
  · subst e; rw [ht] at hj'; injection hj' with hj'; subst hj'; exact hs
  · exact h j t' (by omega) hj'
theorem PartA.small {t : Tr} (h : PartA t.ats t.ats.length) (h2 : t.ats.length ≤ 1048576) : SmallT t :=
  ⟨h2, fun i a ha => h i a (List.getElem?_eq_some_iff.1 ha).1 ha⟩
theorem PartT.small {l : List Tr} (h : PartT l l.length) (h2 : l.length ≤ 1048576) : Small l :=
  ⟨h2, fun i a ha => h i a (List.getElem?_eq_some_iff.1 ha).1 ha⟩

/-- What a zzBytes function answers. -/
def BRes (P : Prop) (e : Ending) : Prop := ∃ r, e = .returned (.bool r) ∧ (r = true → P)
theorem BRes.no {P : Prop} : BRes P (.returned (.bool false)) := ⟨false, rfl, fun h => by cases h⟩
theorem BRes.yes {P : Prop} (h : P) : BRes P (.returned (.bool true)) := ⟨true, rfl, fun _ => h⟩

set_option maxHeartbeats 1000000 in
theorem bytes15 {ok : Nat → Prop} (a : Option Addr) (len cap : Nat) (l : List Tr) (w : World) (ht : TrsIn ok w (.slice a len cap) l) :
    Calls Try.prog 15 #[.slice a len cap] w fun e w' => BRes (Small l) e ∧ w = w' := by
  obtain ⟨hlen, hlc, hcap⟩ := ht.len
  unfold maxLen at hcap
  have H : Hid (TrsIn ok w (.slice a len cap) l ∧ len = l.length) := ⟨ht, hlen⟩
  clear ht hlen
  by_cases hbig : 1048576 < len
  · go_enter Try.func15, Try.ntmps15
    go_wp2
    go_ret
    exact ⟨BRes.no, rfl⟩
  go_enter Try.func15, Try.ntmps15
  go_wp2
  go_loop [3, 4] (fun t i => ∃ (r : Int) (k : Nat), k ≤ len ∧ i = .int .i64 k ∧ t = .int .i64 r ∧ 0 ≤ r ∧ r ≤ 1048576 ∧ PartT l k) (fun _ i => len - (intOf i).toNat)
  case atStart => exact ⟨len, 0, Nat.zero_le _, rfl, rfl, by omega, by omega, PartT.zero l⟩
  case round =>
    obtain ⟨r, k, hk, rfl, rfl, h1, h2, hpt⟩ := hrel
    by_cases hlt : k < len
    · obtain ⟨b, o, x, u, rfl, hx, _, c0, c1, c2, hu, _⟩ := H.out.1.at hlt
      obtain ⟨ua, uc, rfl, hul, hum⟩ := hu.form
      unfold maxLen at hum
      have H2 : Hid (AttrsIn ok w (.slice ua x.ats.length uc) x.ats) := hu
      have HX : Hid (l[k]? = some x) := hx
      clear hu hx c0 c1
      by_cases hxb : 1048576 < x.ats.length
      · go_wp2
        go_ret
        exact ⟨BRes.no, rfl⟩
      by_cases hxs : 1048576 < r + x.ats.length
      · go_wp2
        go_ret
        exact ⟨BRes.no, rfl⟩
      go_wp2
      go_loop [3, 5] (fun t i => ∃ (q : Int) (j : Nat), j ≤ x.ats.length ∧ i = .int .i64 j ∧ t = .int .i64 q ∧ 0 ≤ q ∧ q ≤ 1048576 ∧ PartA x.ats j) (fun _ i => x.ats.length - (intOf i).toNat)
      case atStart => exact ⟨_, 0, Nat.zero_le _, rfl, rfl, by omega, by omega, PartA.zero _⟩
      case round =>
        clear h1 h2 hxs
        obtain ⟨q, j, hj, rfl, rfl, h1, h2, hpa⟩ := hrel
        by_cases hjl : j < x.ats.length
        · obtain ⟨b2, o2, y, u2, rfl, hy, _, d0, d1, d2, hv, _⟩ := H2.out.at hjl
          obtain ⟨va, vc, rfl, hvl, hvm⟩ := hv.form
          unfold maxLen at hvm
          have HY : Hid (x.ats[j]? = some y) := hy
          clear hv hy d0 d1
          by_cases hyb : 1048576 < y.val.length
          · go_wp2
            go_ret
            exact ⟨BRes.no, rfl⟩
          by_cases hys : 1048576 < q + y.val.length
          · go_wp2
            go_ret
            exact ⟨BRes.no, rfl⟩
          go_wp2
          go_round
          case rel => exact ⟨q + y.val.length, j + 1, by omega, by go_num, rfl, by omega, by omega, hpa.succ HY.out (by omega)⟩
          case measure => simp [intOf]; omega
        · have hje : j = x.ats.length := by omega
          have HS : Hid (SmallT x) := PartA.small (by rw [← hje]; exact hpa) (by omega)
          clear hje hpa
          go_wp2
          go_round
          case rel => exact ⟨q, k + 1, by omega, by go_num, rfl, h1, h2, hpt.succ HX.out HS.out⟩
          case measure => simp [intOf]; omega
    · have hke : k = l.length := by have := H.out.2; omega
      have HS : Hid (Small l) := PartT.small (by rw [← hke]; exact hpt) (by have := H.out.2; omega)
      clear hke hpt
      go_wp2
      go_ret
      exact ⟨BRes.yes HS.out, rfl⟩

end Go.Proofs.Qxb6600910a
