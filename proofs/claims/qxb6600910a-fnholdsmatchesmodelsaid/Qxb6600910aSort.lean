/-
  zzSortedKeys.
-/
import Derived.Test.Qxb6600910aSortP
import Derived.Test.Qxb6600910aKeyEq
import Derived.Test.Qxb6600910aCmpQ
import Derived.Deep.RegionWith
import Derived.Deep.DrawnRows
import Derived.BigQuiet
import Derived.Deep.QuietTactic
namespace Go.Proofs.Qxb6600910a
open Go.RowKit
attribute [local go_sem ↓] Go.wp_at_zero Go.wp_at_succ

theorem Try.info33 : (Try.prog.info? 33).map (fun i => (i.zero, i.size, i.bytes)) = some (some (.slice none 0 0), 1, 24) := by kernel_rfl

/-- What zzSortedKeys leaves. -/
def SortRes (w : World) (l : List Tr) (e : Ending) (w' : World) : Prop :=
  ∃ G ks, e = .returned (.slice (some ⟨G, 0, none⟩) l.length l.length) ∧ KeysAt w' G l.length ks ∧ SortedUp ks l.length ∧ SameMem ks (l.map keyOf) ∧ Below w.heap.size w w'

set_option maxRecDepth 100000 in
set_option maxHeartbeats 4000000 in
theorem sort36 {ok : Nat → Prop} (a : Option Addr) (len cap : Nat) (l : List Tr) (w : World) (h : TrsIn ok w (.slice a len cap) l) (hs : Small l) (hr : ∀ (i : Nat) (t : Tr), l[i]? = some t → 0 ≤ t.ty ∧ t.ty ≤ 255 ∧ 0 ≤ t.id ∧ t.id ≤ 65535) :
    Calls Try.prog 36 #[.slice a len cap] w (SortRes w l) := by
  obtain ⟨hlen, hlc, hcap⟩ := h.len
  have hl20 : len ≤ 1048576 := by have := hs.1; omega
  have hmk := run_make_row' (P := Try.prog) 68 33 (.slice none 0 0) 24 Try.underlying68 Try.info33 rfl .i64 .i64 len (by omega) (by omega)
  have H : Hid (TrsIn (fun b => b < w.heap.size) w (.slice a len cap) l ∧ len = l.length ∧ ∀ (i : Nat) (t : Tr), l[i]? = some t → OkT t) := ⟨h.weak (fun b _ hb => hb), hlen, fun i t ht => ⟨hs.2 i t ht, hr i t ht⟩⟩
  clear hlen h hcap hlc hs hr
  go_enter Try.func36, Try.ntmps36
  go_wp2
  go_loopw [4] (fun i wr => ∃ k : Nat, k ≤ len ∧ i = .int .i64 k ∧ PartK wr w.heap.size len l k ∧ Below w.heap.size w wr) (fun i _ => len - (intOf i).toNat)
  case atStart => exact ⟨0, Nat.zero_le _, rfl, PartK.start (World.rowIs_made w (.slice none 0 0) len 33), (Below.refl _ _).alloc (Nat.le_refl _) _⟩
  case round =>
    obtain ⟨k, hk, rfl, hpart, hbel⟩ := hrel
    by_cases hlt : k < len
    · obtain ⟨b, o, t, u, rfl, ht, _, c0, c1, c2, hu, _⟩ := H.out.1.at hlt
      have c0' : wr.cell? ⟨b, o + k * 3, none⟩ = some (.int .u8 t.ty) := by rw [hbel.cell (by exact cell_lt c0)]; exact c0
      have c1' : wr.cell? ⟨b, o + k * 3 + 1, none⟩ = some (.int .u16 t.id) := by rw [hbel.cell (by exact cell_lt c1)]; exact c1
      have c2' : wr.cell? ⟨b, o + k * 3 + 2, none⟩ = some u := by rw [hbel.cell (by exact cell_lt c2)]; exact c2
      have hpl := hpart.lt
      have HT : Hid (l[k]? = some t ∧ AttrsIn (fun b => b < w.heap.size) wr u t.ats ∧ PartK wr w.heap.size len l k ∧ Below w.heap.size w wr ∧ OkT t) := ⟨ht, hu.keep (keeps_of_below_lt hbel (fun b hb => hb)), hpart, hbel, H.out.2.2 k t ht⟩
      obtain ⟨ua, uc, rfl, _⟩ := hu.form
      clear c0 c1 c2 hu ht hpart hbel
      go_wp2_with fail
      refine (key38 t _ wr HT.out.2.1 HT.out.2.2.2.2.1 HT.out.2.2.2.2.2).mono ?_
      rintro e w1 ⟨⟨v, rfl, hv⟩, hb1⟩
      obtain ⟨va, vc, hvf, _⟩ := hv.form
      subst hvf
      have hp1 := HT.out.2.2.1.below hb1
      obtain ⟨z, hz⟩ := hp1.cell k hlt
      have hzf := hp1.frozen k
      have R : Hid (PartK (w1.setCell ⟨w.heap.size, k, none⟩ (.slice va (keyOf t).length vc)) w.heap.size len l (k + 1) ∧ Below w.heap.size w (w1.setCell ⟨w.heap.size, k, none⟩ (.slice va (keyOf t).length vc))) :=
        ⟨hp1.next HT.out.1 (hv.weak (fun b hb _ => by omega)), (HT.out.2.2.2.1.trans (hb1.mono HT.out.2.2.2.1.size)).setCell (Nat.le_refl _) _⟩
      clear hp1 hv hb1 c0' c1' c2'
      go_wp2
      go_roundw
      case rel => exact ⟨k + 1, by omega, by go_num, R.out.1, R.out.2⟩
      case measure => simp [intOf]; omega
    · have hke : k = len := by omega
      have hlen := H.out.2.1
      have HK : Hid (KeysAt wr w.heap.size len (l.map keyOf) ∧ Below w.heap.size w wr) := by
        rw [hke, hlen] at hpart
        refine ⟨?_, hbel⟩
        rw [hlen]
        exact hpart.all
      rename World => w1
      clear hpart hbel hke hlen
      go_wp2
      go_loopw [5] (fun i wr => ∃ (i' : Nat) (ks : List (List Int)), 1 ≤ i' ∧ i' ≤ len + 1 ∧ i = .int .i64 i' ∧ KeysAt wr w.heap.size len ks ∧ SortedUp ks i' ∧ SameMem ks (l.map keyOf) ∧ Below w.heap.size w wr) (fun i _ => len + 1 - (intOf i).toNat)
      case atStart => exact ⟨1, _, Nat.le_refl _, by omega, rfl, HK.out.1, SortedUp.one _, SameMem.refl _, HK.out.2⟩
      case round =>
        clear HK hlt hk
        obtain ⟨i, ks, hi1, hi2, rfl, hka, hso, hsm, hbel⟩ := hrel
        by_cases hil : i < len
        · rename World => w2
          have HS : Hid (KeysAt w2 w.heap.size len ks ∧ InsUp ks i i ∧ SameMem ks (l.map keyOf) ∧ Below w.heap.size w w2) := ⟨hka, hso.ins, hsm, hbel⟩
          clear hka hso hsm hbel
          go_wp2
          go_loopw [6] (fun t wr => ∃ (j : Nat) (ks : List (List Int)), j ≤ i ∧ t = .int .i64 j ∧ KeysAt wr w.heap.size len ks ∧ InsUp ks i j ∧ SameMem ks (l.map keyOf) ∧ Below w.heap.size w wr) (fun t _ => (intOf t).toNat)
          case atStart => exact ⟨i, _, Nat.le_refl _, rfl, HS.out.1, HS.out.2.1, HS.out.2.2.1, HS.out.2.2.2⟩
          case round =>
            clear HS
            obtain ⟨j, ks, hj, rfl, hka, hins, hsm, hbel⟩ := hrel
            cases j with
            | zero =>
              have R := hide hins.stop0
              clear hins
              have hd : decide ((0 : Int) < ((0 : Nat) : Int)) = false := rfl
              go_wp2
              go_quiet (fail)
              go_wp2
              go_roundw
              case rel => exact ⟨i + 1, ks, by omega, by omega, by go_num, hka.below (below_drewN (Below.refl _ _) _), R.out, hsm, below_drewN hbel _⟩
              case measure => simp [intOf]; omega
            | succ q =>
              obtain ⟨u, kq, d0, hq, hu⟩ := hka.at (i := q) (by omega)
              obtain ⟨v, kq', d1, hq', hv⟩ := hka.at (i := q + 1) (by omega)
              have f0 := hka.frozen q
              have f1 := hka.frozen (q + 1)
              have hpl := hka.lt
              have HQ : Hid (KeysAt wr w.heap.size len ks ∧ InsUp ks i (q + 1) ∧ SameMem ks (l.map keyOf) ∧ Below w.heap.size w wr ∧ ks[q]? = some kq ∧ ks[q + 1]? = some kq' ∧ BytesIn (fun b => w.heap.size < b) wr u kq ∧ BytesIn (fun b => w.heap.size < b) wr v kq') := ⟨hka, hins, hsm, hbel, hq, hq', hu, hv⟩
              obtain ⟨ua, uc, hvf, _⟩ := hu.form
              subst hvf
              obtain ⟨va, vc, hvf, _⟩ := hv.form
              subst hvf
              clear hka hins hsm hbel hq hq' hu hv
              rw [show ((q + 1 : Nat) : Int) = (q : Int) + 1 by omega]
              have g0 : (0 : Int) < (q : Int) + 1 := by omega
              have g1 : (q : Int) < (len : Int) := by omega
              have g2 : (q : Int) + 1 < (len : Int) := by omega
              have HC : Hid (∀ n : Nat, BytesIn (fun b => w.heap.size < b) (wr.drewN n) (.slice ua kq.length uc) kq ∧ BytesIn (fun b => w.heap.size < b) (wr.drewN n) (.slice va kq'.length vc) kq') := fun n =>
                ⟨HQ.out.2.2.2.2.2.2.1.keep (keeps_of_below _ (below_drewN (Below.refl _ _) n)), HQ.out.2.2.2.2.2.2.2.keep (keeps_of_below _ (below_drewN (Below.refl _ _) n))⟩
              by_cases hc : 0 < cmpL kq kq'
              · go_wp2
                go_quiet ((go_at_call 40; exact Calls.quiet_of (cmp40q _ _ kq kq' _ (HC.out _).1 (HC.out _).2)))
                have R : Hid (∀ n : Nat, KeysAt (((wr.drewN n).setCell ⟨w.heap.size, q, none⟩ (.slice va kq'.length vc)).setCell ⟨w.heap.size, q + 1, none⟩ (.slice ua kq.length uc)) w.heap.size len (swp ks q kq kq') ∧ InsUp (swp ks q kq kq') i q ∧ SameMem (swp ks q kq kq') (l.map keyOf) ∧ Below w.heap.size w (((wr.drewN n).setCell ⟨w.heap.size, q, none⟩ (.slice va kq'.length vc)).setCell ⟨w.heap.size, q + 1, none⟩ (.slice ua kq.length uc))) := fun n =>
                  ⟨(HQ.out.1.below (below_drewN (Below.refl _ _) n)).swp HQ.out.2.2.2.2.1 HQ.out.2.2.2.2.2.1 d0 d1, HQ.out.2.1.swp HQ.out.2.2.2.2.1 HQ.out.2.2.2.2.2.1 hc (by omega), HQ.out.2.2.1.swp HQ.out.2.2.2.2.1 HQ.out.2.2.2.2.2.1, ((below_drewN HQ.out.2.2.2.1 n).setCell (Nat.le_refl _) _).setCell (Nat.le_refl _) _⟩
                go_wp2
                go_roundw
                case rel => exact ⟨q, _, by omega, by go_num, (R.out _).1, (R.out 0).2.1, (R.out 0).2.2.1, (R.out _).2.2.2⟩
                case measure => simp [intOf]
              · go_wp2
                go_quiet ((go_at_call 40; exact Calls.quiet_of (cmp40q _ _ kq kq' _ (HC.out _).1 (HC.out _).2)))
                have R : Hid (∀ n : Nat, KeysAt (wr.drewN n) w.heap.size len ks ∧ SortedUp ks (i + 1) ∧ Below w.heap.size w (wr.drewN n)) := fun n =>
                  ⟨HQ.out.1.below (below_drewN (Below.refl _ _) n), HQ.out.2.1.stop HQ.out.2.2.2.2.1 HQ.out.2.2.2.2.2.1 (by omega) (by omega), below_drewN HQ.out.2.2.2.1 n⟩
                go_wp2
                go_roundw
                case rel => exact ⟨i + 1, ks, by omega, by omega, by go_num, (R.out _).1, (R.out 0).2.1, HQ.out.2.2.1, (R.out _).2.2⟩
                case measure => simp [intOf]; omega
        · have R : Hid (SortRes w l (.returned (.slice (some ⟨w.heap.size, 0, none⟩) len len)) wr) := by
            have hlen := H.out.2.1
            rw [hlen] at hka hil ⊢
            exact ⟨_, ks, rfl, hka, hso.mono (by omega), hsm, hbel⟩
          clear hka hso hsm hbel
          go_wp2
          go_ret
          exact R.out
end Go.Proofs.Qxb6600910a
