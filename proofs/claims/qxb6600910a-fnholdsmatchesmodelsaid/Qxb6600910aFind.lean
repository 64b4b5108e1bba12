/-
  zzFind: binary search.
-/
import Derived.Test.Qxb6600910aSortP
import Derived.Test.Qxb6600910aCmp
namespace Go.Proofs.Qxb6600910a
open Go.RowKit

set_option maxRecDepth 100000 in
set_option maxHeartbeats 1000000 in
theorem find37 {ok : Nat → Prop} (G n : Nat) (ks : List (List Int)) (kv : Value) (key : List Int) (w : World) (h : KeysAt w G n ks) (hs : SortedUp ks n) (hk : BytesIn ok w kv key) (hn : n ≤ 1048576) :
    Calls Try.prog 37 #[.slice (some ⟨G, 0, none⟩) n n, kv] w fun e w' => e = .returned (.bool (ks.contains key)) ∧ Below w.heap.size w w' := by
  have H : Hid (KeysAt w G n ks ∧ SortedUp ks ks.length ∧ BytesIn ok w kv key ∧ ks.length = n) := ⟨h, by rw [h.1]; exact hs, hk, h.1⟩
  obtain ⟨ka, kc, rfl, _⟩ := hk.form
  clear h hs hk
  go_enter Try.func37, Try.ntmps37
  go_wp2
  go_loopw [5, 6] (fun t u wr => ∃ lo d : Nat, lo + d ≤ n ∧ t = .int .i64 lo ∧ u = .int .i64 ((lo : Int) + d) ∧ FindUp ks key lo (lo + d) ∧ Below w.heap.size w wr) (fun t u _ => (intOf u - intOf t).toNat)
  case atStart => exact ⟨0, n, by omega, rfl, by go_num, by have := FindUp.zero ks key; rw [H.out.2.2.2] at this; simpa using this, Below.refl _ _⟩
  case round =>
    obtain ⟨lo, d, hlo, rfl, rfl, hup, hbel⟩ := hrel
    cases d with
    | zero =>
      have R : Hid (ks.contains key = false) := hup.none (Nat.le_refl _)
      clear hup
      go_wp2
      go_ret
      exact ⟨ret_bool R.out.symm, hbel⟩
    | succ d =>
      rw [show ((d + 1 : Nat) : Int) = (d : Int) + 1 by omega]
      have hmn : lo + (d + 1) / 2 < n := by omega
      obtain ⟨u, x, c0, hx, hu⟩ := (H.out.1.below hbel).at hmn
      have HX : Hid (ks[lo + (d + 1) / 2]? = some x ∧ BytesIn (fun b => G < b) wr u x ∧ FindUp ks key lo (lo + (d + 1)) ∧ Below w.heap.size w wr) := ⟨hx, hu, hup, hbel⟩
      obtain ⟨ua, uc, hvf, _⟩ := hu.form
      subst hvf
      clear hx hu hup hbel
      go_wp2_with fail
      go_at_call 40
      refine (cmp40 _ _ x key _ HX.out.2.1 (H.out.2.2.1.keep (keeps_of_below _ HX.out.2.2.2))).mono ?_
      rintro e w5 ⟨rfl, hb5⟩
      have hb5' : Hid (Below w.heap.size w w5) := HX.out.2.2.2.trans (hb5.mono HX.out.2.2.2.size)
      clear hb5
      by_cases hz : cmpL x key = 0
      · have R : Hid (ks.contains key = true) := by
          have := HX.out.1
          rw [cmpL_zero hz] at this
          exact List.contains_iff_mem.2 (List.mem_of_getElem? this)
        have hz' : (cmpL x key == 0) = true := by simpa using hz
        clear hz
        go_wp2
        go_ret
        exact ⟨ret_bool R.out.symm, hb5'.out⟩
      · have hz' : (cmpL x key == 0) = false := by simpa using hz
        by_cases hlt : cmpL x key < 0
        · have R : Hid (FindUp ks key (lo + (d + 1) / 2 + 1) (lo + (d + 1))) := HX.out.2.2.1.right H.out.2.1 HX.out.1 hlt
          go_wp2
          go_roundw
          case rel => 
            refine ⟨lo + (d + 1) / 2 + 1, d - (d + 1) / 2, by omega, by go_num, by go_num, ?_, hb5'.out⟩
            have : lo + (d + 1) / 2 + 1 + (d - (d + 1) / 2) = lo + (d + 1) := by omega
            rw [this]; exact R.out
          case measure => simp [intOf]; omega
        · have R : Hid (FindUp ks key lo (lo + (d + 1) / 2)) := HX.out.2.2.1.left H.out.2.1 HX.out.1 (by omega)
          go_wp2
          go_roundw
          case rel => exact ⟨lo, (d + 1) / 2, by omega, by go_num, by go_num, R.out, hb5'.out⟩
          case measure => simp [intOf]; omega
end Go.Proofs.Qxb6600910a
