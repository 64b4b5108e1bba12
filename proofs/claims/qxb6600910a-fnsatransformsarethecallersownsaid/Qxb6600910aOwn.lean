/-
  'Rows.FnSaTransformsAreTheCallersOwnSaid': whatever the caller writes into the transforms of an offer, the template's stay as they were and the next offer is as before.
-/
import Derived.Test.Qxb6600910aRows
import Derived.Test.Qxb6600910aWire
import Derived.Test.Qxb6600910aSize
import Derived.Test.Qxb6600910aZZSa
import Derived.Test.Qxb6600910aScrib
import Derived.Test.Qxb6600910aFrom
import Derived.Test.Qxb6600910aBytesS
import Derived.Test.Qxb6600910aHolds
import Derived.Test.Qxb6600910aOpen
import Derived.ShutString
import Derived.ChangeOld
namespace Go.Proofs.Qxb6600910a
open Go.ChangeShapes Go.WideShapes Go.ChangeAt Go.RowKit
attribute [local go_sem ↓] Go.wp_at_zero Go.wp_at_succ

theorem keyEq_self (t : Tr) : (cmpL (keyOf t) (keyOf t) == 0) = true := by rw [cmpL_self]; rfl

/-- The k-th transform of a slice, in a later world: a pointer to it; and by value. -/
theorem TrsIn.trAt {B : Nat} {w wr : World} {a : Option Addr} {len cap : Nat} {l : List Tr} (h : TrsIn (fun b => b < B) w (.slice a len cap) l) (hb : Below B w wr) {k : Nat} (hk : k < len) {t : Tr} (ht : l[k]? = some t) :
    ∃ b o, a = some ⟨b, o, none⟩ ∧ TrAt (fun b => b < B) wr b (o + k * 3) t := by
  obtain ⟨b, o, x, u, ha, hx, hok, c0, c1, c2, hu, _⟩ := h.at hk
  rw [ht] at hx; injection hx with hx; subst hx
  have kk := keeps_of_below_lt hb (ok := fun b => b < B) (fun b hb => hb)
  exact ⟨b, o, ha, u, kk _ _ hok c0, kk _ _ hok c1, kk _ _ hok c2, hu.keep kk⟩

namespace fnSaTransformsAreTheCallersOwn

theorem own : ownKnob Try.prog.godebug = none := by kernel_rfl
theorem laidOut : laidOutB Try.prog = true := by kernel_rfl

set_option maxRecDepth 100000 in
set_option maxHeartbeats 4000000 in
theorem walk (pr nu : Int) (a : Option Addr) (len cap : Nat) (l : List Tr) (sa : Option Addr) (sn sc : Nat) (bs : List Int) (w : World) (h : TrsIn (fun _ => True) w (.slice a len cap) l) (hs : BytesIn (fun _ => True) w (.slice sa sn sc) bs) :
    Calls Try.prog 9 #[.int .u8 pr, .slice a len cap, .int .u8 nu, .slice sa sn sc] w fun e w' => e = .returned (.bool true) ∧ Below w.heap.size w w' := by
  obtain ⟨hsl, hslc, hscm⟩ := hs.len
  unfold maxLen at hscm
  obtain ⟨hlen, hlc, hcap⟩ := h.len
  unfold maxLen at hcap
  have hl63 : len ≤ 9223372036854775807 := by omega
  have hsn63 : sn ≤ 9223372036854775807 := by omega
  have hby := hide (bytes32 pr nu a len cap l sa sn sc w h (by omega))
  have hsz := hide (zzSize_any 0 a len cap l w (by omega) (by omega) h)
  have H : Hid (TrsIn (fun _ => True) w (.slice a len cap) l ∧ BytesIn (fun _ => True) w (.slice sa sn sc) bs ∧ len = l.length ∧ sn = bs.length) := ⟨h, hs, hlen, hsl⟩
  clear h hs hsl hlen hlc hslc
  go_enter Try.func9, Try.ntmps9
  go_wp2_with fail
  refine (unhide hby).mono ?_
  rintro e w' ⟨⟨r, rfl, hsm⟩, rfl⟩
  clear hby
  cases r with
  | false =>
    go_wp2
    go_ret
    exact ⟨rfl, Below.refl _ _⟩
  | true =>
    have HS : Hid (Small l ∧ sn ≤ 1048576) := hsm rfl
    clear hsm
    go_wp2_with fail
    refine (unhide hsz).mono ?_
    rintro e w' ⟨⟨r, rfl, h1, h2⟩, rfl⟩
    clear hsz
    go_wp2_with fail
    refine (zzAdd_any r sn w h1 h2 (by omega) (by omega)).mono ?_
    rintro e w' ⟨⟨r2, rfl, h3, h4⟩, rfl⟩
    by_cases hr : 1048576 < r2
    · go_wp2
      go_ret
      exact ⟨rfl, Below.refl _ _⟩
    go_wp2_with fail
    refine (clone26 sa sn sc bs w H.out.2.1 HS.out.2).mono ?_
    rintro e w1 ⟨⟨v1, rfl, hv1⟩, hb1⟩
    obtain ⟨v1a, v1c, rfl, _⟩ := hv1.form
    clear hv1 h1 h2 h3 h4
    go_wp2_with fail
    refine (toWire13 a len cap l w1 (by exact H.out.1.keep (keeps_of_below _ hb1)) HS.out.1).mono ?_
    rintro e w2 ⟨⟨v2, rfl, hv2⟩, hb2⟩
    obtain ⟨v2a, v2c, rfl, _⟩ := hv2.form
    have hb02 : Below w.heap.size w w2 := hb1.trans (hb2.mono hb1.size)
    have HL := H.out.2.2.1
    rw [← HL] at hv2 ⊢
    have H2 : Hid (TrsIn (fun b => b < w2.heap.size) w2 (.slice v2a len v2c) l ∧ TrsIn (fun b => b < w2.heap.size) w2 (.slice a len cap) l ∧ Below w.heap.size w w2 ∧ (∀ (i : Nat) (t : Tr), l[i]? = some t → OkT t)) :=
      ⟨hv2.weak (fun b _ hb => hb), (H.out.1.keep (keeps_of_below _ hb02)).weak (fun b _ hb => hb), hb02, fun i t ht => ⟨HS.out.1.2 i t ht, H.out.1.range i t ht⟩⟩
    clear hv2 hb1 hb2 hb02 HL
    go_wp2_with fail
    refine (zzsa27 pr 0 nu (.slice v2a len v2c) l v1a bs.length v1c w2 H2.out.1 HS.out.1).mono ?_
    rintro e w3 ⟨s, p, vt, rfl, ⟨s0, p0, p1, p2, p3⟩, hvt, hs3, hp3, hb3⟩
    obtain ⟨ta, tc, rfl, _⟩ := hvt.form
    go_wp2_with fail
    refine (scribble33 w2.heap.size ta l.length tc l w3 hvt).mono ?_
    rintro e w4 ⟨rfl, hb4⟩
    have hb24 : Below w2.heap.size w2 w4 := hb3.trans hb4
    clear hvt hb3 hb4 s0 p0 p1 p2 p3 hs3 hp3
    go_wp2_with fail
    go_loopw [11] (fun i wr => ∃ k : Nat, k ≤ len ∧ i = .int .i64 k ∧ Below w2.heap.size w2 wr) (fun i _ => len - (intOf i).toNat)
    case atStart => exact ⟨0, Nat.zero_le _, rfl, hb24⟩
    case round =>
      clear hb24
      obtain ⟨k, hk, rfl, hbel⟩ := hrel
      by_cases hlt : k < len
      · obtain ⟨t, ht⟩ : ∃ t, l[k]? = some t := ⟨_, List.getElem?_eq_getElem (by have := H.out.2.2.1; omega)⟩
        obtain ⟨b, o, rfl, htr⟩ := H2.out.1.trAt hbel hlt ht
        obtain ⟨b', o', rfl, u', c0, c1, c2, hu'⟩ := H2.out.2.1.trAt hbel hlt ht
        obtain ⟨ua', uc', rfl, _⟩ := hu'.form
        have HT : Hid (TrAt (fun b => b < w2.heap.size) wr b (o + k * 3) t ∧ AttrsIn (fun b => b < w2.heap.size) wr (.slice ua' t.ats.length uc') t.ats ∧ Below w2.heap.size w2 wr ∧ OkT t) := ⟨htr, hu', hbel, H2.out.2.2.2 k t ht⟩
        have hki : (k : Int) < (len : Int) := by omega
        clear htr hu' hbel ht
        go_wp2_with fail
        go_region_with (first
          | (go_at_call 31; refine (from31 b (o + k * 3) t _ (by exact HT.out.1.keep (Below.refl _ _).drew) HT.out.2.2.2.1.1).mono ?_; rintro e w5 ⟨u5, rfl, hu5, hb5⟩; have hb5' : Below wr.heap.size wr w5 := (Below.refl _ _).drew.trans hb5; have k0 := cell_later hb5' c0; have k1 := cell_later hb5' c1; have k2 := cell_later hb5' c2; obtain ⟨ua5, uc5, rfl, _⟩ := hu5.form)
          | (go_at_call 30; refine (keyEq30 t t (.slice ua5 t.ats.length uc5) (.slice ua' t.ats.length uc') _ (by exact hu5) (by exact HT.out.2.1.keep (keeps_of_below _ hb5')) HT.out.2.2.2 HT.out.2.2.2).mono ?_; rintro e w6 ⟨rfl, hb6⟩; rw [keyEq_self]))
        all_goals
          have R : Hid (Below w2.heap.size w2 w6) := HT.out.2.2.1.trans ((hb5'.trans (hb6.mono hb5'.size)).mono HT.out.2.2.1.size)
          clear hb5 hb5' hb6 k0 k1 k2 hu5
          go_wp2
          go_roundw
          case rel => exact ⟨k + 1, by omega, by go_num, R.out⟩
          case measure => simp [intOf]; omega
      · go_wp2_with fail
        refine (zzsa27 pr 0 nu (.slice v2a len v2c) l v1a bs.length v1c wr (by exact H2.out.1.keep (keeps_of_below _ hbel)) HS.out.1).mono ?_
        rintro e w7 ⟨s2, q2, vt, rfl, ⟨s0, p0, p1, p2, p3⟩, hvt, hs3, hp3, hb7⟩
        obtain ⟨ta, tc, rfl, _⟩ := hvt.form
        have hb27 : Below w2.heap.size w2 w7 := hbel.trans (hb7.mono hbel.size)
        have HL := H.out.2.2.1
        rw [← HL] at p3 hvt
        have H7 : Hid (TrsIn (fun b => b < w7.heap.size) w7 (.slice ta len tc) l ∧ TrsIn (fun b => b < w7.heap.size) w7 (.slice a len cap) l ∧ Below w2.heap.size w2 w7 ∧ w7.cell? ⟨s2, 0, none⟩ = some (.slice (some ⟨q2, 0, none⟩) 1 1) ∧ w7.cell? ⟨q2, 3, none⟩ = some (.slice ta len tc)) :=
          ⟨hvt.weak (fun b _ hb => hb), (H2.out.2.1.keep (keeps_of_below _ hb27)).weak (fun b _ hb => hb), hb27, s0, p3⟩
        clear hvt hs3 hp3 hb7 hb27 HL hbel
        go_wp2_with fail
        go_loopw [13] (fun i wr => ∃ k : Nat, k ≤ len ∧ i = .int .i64 k ∧ Below w7.heap.size w7 wr) (fun i _ => len - (intOf i).toNat)
        case atStart => exact ⟨0, Nat.zero_le _, rfl, Below.refl _ _⟩
        case round =>
          clear s0 p0 p1 p2 p3 hlt hk
          obtain ⟨k, hk, rfl, hbel⟩ := hrel
          by_cases hlt : k < len
          · obtain ⟨t, ht⟩ : ∃ t, l[k]? = some t := ⟨_, List.getElem?_eq_getElem (by have := H.out.2.2.1; omega)⟩
            obtain ⟨b, o, rfl, htr⟩ := H7.out.1.trAt hbel hlt ht
            obtain ⟨b', o', rfl, u', c0, c1, c2, hu'⟩ := H7.out.2.1.trAt hbel hlt ht
            obtain ⟨ua', uc', rfl, _⟩ := hu'.form
            have s0 := cell_later hbel H7.out.2.2.2.1
            have p3 := cell_later hbel H7.out.2.2.2.2
            have HT : Hid (TrAt (fun b => b < w7.heap.size) wr b (o + k * 3) t ∧ AttrsIn (fun b => b < w7.heap.size) wr (.slice ua' t.ats.length uc') t.ats ∧ Below w7.heap.size w7 wr ∧ OkT t) := ⟨htr, hu', hbel, H2.out.2.2.2 k t ht⟩
            have hki : (k : Int) < (len : Int) := by omega
            clear htr hu' hbel ht
            go_wp2_with fail
            go_region_with (first
              | (go_at_call 31; refine (from31 b (o + k * 3) t _ (by exact HT.out.1.keep (Below.refl _ _).drew) HT.out.2.2.2.1.1).mono ?_; rintro e w5 ⟨u5, rfl, hu5, hb5⟩; have hb5' : Below wr.heap.size wr w5 := (Below.refl _ _).drew.trans hb5; have k0 := cell_later hb5' c0; have k1 := cell_later hb5' c1; have k2 := cell_later hb5' c2; obtain ⟨ua5, uc5, rfl, _⟩ := hu5.form)
              | (go_at_call 30; refine (keyEq30 t t (.slice ua5 t.ats.length uc5) (.slice ua' t.ats.length uc') _ (by exact hu5) (by exact HT.out.2.1.keep (keeps_of_below _ hb5')) HT.out.2.2.2 HT.out.2.2.2).mono ?_; rintro e w6 ⟨rfl, hb6⟩; rw [keyEq_self]))
            all_goals
              have R : Hid (Below w7.heap.size w7 w6) := HT.out.2.2.1.trans ((hb5'.trans (hb6.mono hb5'.size)).mono HT.out.2.2.1.size)
              clear hb5 hb5' hb6 k0 k1 k2 hu5
              go_wp2
              go_roundw
              case rel => exact ⟨k + 1, by omega, by go_num, R.out⟩
              case measure => simp [intOf]; omega
          · have R : Hid (Below w.heap.size w wr) := by
              have h27 := H7.out.2.2.1
              have h2r : Below w2.heap.size w2 wr := h27.trans (hbel.mono h27.size)
              exact H2.out.2.2.1.trans (h2r.mono H2.out.2.2.1.size)
            clear hbel
            go_wp2
            go_ret
            exact ⟨rfl, R.out⟩
end fnSaTransformsAreTheCallersOwn
end Go.Proofs.Qxb6600910a
