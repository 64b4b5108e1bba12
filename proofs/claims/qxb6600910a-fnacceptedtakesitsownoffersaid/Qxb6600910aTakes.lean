/-
  'Rows.FnAcceptedTakesItsOwnOfferSaid': accepted takes the offer that sa makes exactly when it is numbered 1 and its SPI has the template's length.
-/
import Derived.Test.Qxb6600910aRows
import Derived.Test.Qxb6600910aAccF
import Derived.Test.Qxb6600910aBytesA
import Derived.Test.Qxb6600910aSize
import Derived.Test.Qxb6600910aOpen
import Derived.ShutString
import Derived.LaidEqlPtr
import Derived.ChangeOld
namespace Go.Proofs.Qxb6600910a
open Go.ChangeShapes Go.WideShapes Go.ChangeAt Go.RowKit
namespace fnAcceptedTakesItsOwnOffer

theorem own : ownKnob Try.prog.godebug = none := by kernel_rfl
theorem laidOut : laidOutB Try.prog = true := by kernel_rfl

theorem info42 : (Try.prog.info? 42).isSome = true := by kernel_rfl
theorem ptr_same (w : World) (a : Addr) : Sem.run Try.prog (binOp .eql 38 (.pointer (some a)) (.pointer (some a))) w = .ok (.bool true) w := by
  obtain ⟨j, hj⟩ := Option.isSome_iff_exists.1 info42
  exact run_eql_ptr_same w a Try.underlying38 hj

set_option maxRecDepth 100000 in
set_option maxHeartbeats 4000000 in
theorem walk (pr sl nu : Int) (a : Option Addr) (len cap : Nat) (l : List Tr) (sa : Option Addr) (sn sc : Nat) (bs : List Int) (w : World) (h : TrsIn (fun _ => True) w (.slice a len cap) l) (hs : BytesIn (fun _ => True) w (.slice sa sn sc) bs) :
    Calls Try.prog 7 #[.int .u8 pr, .int .i64 sl, .slice a len cap, .int .u8 nu, .slice sa sn sc] w fun e w' => e = .returned (.bool true) ∧ Below w.heap.size w w' := by
  obtain ⟨hsl, hslc, hscm⟩ := hs.len
  unfold maxLen at hscm
  obtain ⟨hlen, hlc, hcap⟩ := h.len
  unfold maxLen at hcap
  have hl63 : len ≤ 9223372036854775807 := by omega
  have hsn63 : sn ≤ 9223372036854775807 := by omega
  have hby := hide (bytes24 pr sl nu a len cap l sa sn sc w h (by omega))
  have hsz := hide (zzSize_any 0 a len cap l w (by omega) (by omega) h)
  have H : Hid (TrsIn (fun _ => True) w (.slice a len cap) l ∧ BytesIn (fun _ => True) w (.slice sa sn sc) bs ∧ len = l.length ∧ sn = bs.length) := ⟨h, hs, hlen, hsl⟩
  clear h hs hsl hlen hlc hslc
  go_enter Try.func7, Try.ntmps7
  go_wp2_with fail
  refine (unhide hby).mono ?_
  rintro e w' ⟨⟨r, rfl, hsm⟩, rfl⟩
  clear hby
  cases r with
  | false =>
    go_wp2
    go_ret
    exact ⟨rfl, Below.refl _ _⟩
  | true =>
    have HS : Hid (Small l ∧ sn ≤ 1048576) := hsm rfl
    clear hsm
    go_wp2_with fail
    refine (unhide hsz).mono ?_
    rintro e w' ⟨⟨r, rfl, h1, h2⟩, rfl⟩
    clear hsz
    go_wp2_with fail
    refine (zzAdd_any r sn w h1 h2 (by omega) (by omega)).mono ?_
    rintro e w' ⟨⟨r2, rfl, h3, h4⟩, rfl⟩
    by_cases hr : 1048576 < r2
    · go_wp2
      go_ret
      exact ⟨rfl, Below.refl _ _⟩
    by_cases hl : 4096 < len
    · go_wp2
      go_ret
      exact ⟨rfl, Below.refl _ _⟩
    go_wp2_with fail
    go_at_call 26
    refine (clone26 sa sn sc bs w H.out.2.1 HS.out.2).mono ?_
    rintro e w1 ⟨⟨v1, rfl, hv1⟩, hb1⟩
    obtain ⟨v1a, v1c, hvf, hv1l, hv1m⟩ := hv1.form
    subst hvf
    have hbl : bs.length ≤ 9223372036854775807 := by unfold maxLen at hv1m; omega
    clear hv1 h1 h2 h3 h4 hv1l hv1m
    have H1 : Hid (Below w.heap.size w w1) := hb1
    clear hb1
    go_wp2_with fail
    go_at_call 13
    refine (toWire13 a len cap l w1 (by exact H.out.1.keep (keeps_of_below _ H1.out)) HS.out.1).mono ?_
    rintro e w2 ⟨⟨v2, rfl, hv2⟩, hb2⟩
    obtain ⟨v2a, v2c, hvf, _⟩ := hv2.form
    subst hvf
    have H2 : Hid (TrsIn (fun b => b < w2.heap.size) w2 (.slice v2a l.length v2c) l ∧ Below w.heap.size w w2) :=
      ⟨hv2.weak (fun b _ hb => hb), H1.out.trans (hb2.mono H1.out.size)⟩
    clear hv2 hb2
    go_wp2_with fail
    go_at_call 27
    refine (zzsa27 pr sl nu (.slice v2a l.length v2c) l v1a bs.length v1c w2 H2.out.1 HS.out.1).mono ?_
    rintro e w3 ⟨s, p, vt, rfl, hsa, hvt, hs3, hp3, hb3⟩
    obtain ⟨ta, tc, hvf, _⟩ := hvt.form
    subst hvf
    have c0 := hsa.s0
    have H3 : Hid (TrsIn (fun b => b < w2.heap.size) w3 (.slice v2a l.length v2c) l ∧ TrsIn (fun _ => True) w3 (.slice ta l.length tc) l ∧ SaAt w3 s p nu pr (.slice v1a bs.length v1c) (.slice ta l.length tc) ∧ Below w.heap.size w w3) :=
      ⟨H2.out.1.keep (keeps_of_below _ hb3), hvt.weak (fun _ _ _ => trivial), hsa, H2.out.2.trans (hb3.mono H2.out.2.size)⟩
    clear hsa hvt hb3 hs3 hp3
    go_wp2_with fail
    go_at_call 22
    refine (zzacc22 pr sl nu v2a ta v1a v2c tc bs.length v1c s p l w3 H3.out.1 H3.out.2.1 H3.out.2.2.1).mono ?_
    rintro e w4 ⟨rfl, hb4⟩
    have c0' := cell_later hb4 c0
    have H4 : Hid (Below w.heap.size w w4) := H3.out.2.2.2.trans (hb4.mono H3.out.2.2.2.size)
    clear hb4 c0
    by_cases hn : nu = 1
    · subst hn
      by_cases he : (bs.length : Int) = sl
      · subst he
        rw [show accV 1 bs.length (bs.length : Int) p = .pointer (some ⟨p, 0, none⟩) from if_pos ⟨rfl, rfl⟩]
        have hpe := ptr_same w4 ⟨p, 0, none⟩
        go_wp2
        go_ret
        exact ⟨rfl, H4.out⟩
      · rw [show accV 1 bs.length sl p = .pointer none from if_neg (fun x => he x.2)]
        have he' : ((bs.length : Int) == sl) = false := by simpa using he
        go_wp2
        go_ret
        exact ⟨rfl, H4.out⟩
    · rw [show accV nu bs.length sl p = .pointer none from if_neg (fun x => hn x.1)]
      have hn' : (nu == 1) = false := by simpa using hn
      go_wp2
      go_ret
      exact ⟨rfl, H4.out⟩

set_option maxRecDepth 100000 in
theorem lifted (os : Os) (started : os.Started) (H : Type) (enc : TypeId × Value → H) :
    ReturnsInHanded {} Try.checked os 7 .any (Rows.fnAcceptedTakesItsOwnOfferSpec.pre6 enc Try.prog Try.f7 Rows.fnAcceptedTakesItsOwnOfferRow.domain false) (Rows.fnAcceptedTakesItsOwnOfferSpec.post enc Try.prog Try.f7 false true false false) := by
  refine returnsInHanded_of_change (C := Try.checked) own started (by kernel_rfl) Try.func7
    (ChangeSpec.witness6 (enc := enc) (C := Try.checked) false ⟨#[], #[.int .u8 0, .int .i64 0, .slice none 0 0, .int .u8 0, .slice none 0 0], []⟩ 8 (by kernel_rfl) (by kernel_rfl) (by kernel_rfl) (by kernel_rfl)) ?_
  intro W base args ds gs before hval0 hW hcnd _
  have hval : ∀ (j : Nat) t v, Try.f7.params[j]? = some t → args[j]? = some v → Value.okWide Try.prog W .any base t v := hval0
  have hW' := hW
  obtain ⟨p, q, hA0, hV, rfl, hfz, hnd⟩ := hW
  have hA : DataW.TrodAll enc Try.prog W 0 (fun _ => true) true Try.f7.params.toList args.toList ds p := hA0
  rw [Try.params7] at hA hval
  obtain ⟨v0, vs0, d0, ds0, p0, q0, hargs, rfl, rfl, h0, r0⟩ := trodAll_cons hA
  obtain ⟨vx, vsx, dx, dsx, px, qx, rfl, rfl, rfl, hx, rx⟩ := trodAll_cons r0
  obtain ⟨v1, vs1, d1, ds1, p1, q1, rfl, rfl, rfl, h1, r1⟩ := trodAll_cons rx
  obtain ⟨v2, vs2, d2, ds2, p2, q2, rfl, rfl, rfl, h2, r2⟩ := trodAll_cons r1
  obtain ⟨v3, vs3, d3, ds3, p3, q3, rfl, rfl, rfl, h3, r3⟩ := trodAll_cons r2
  obtain ⟨rfl, rfl, rfl⟩ := trodAll_nil r3
  obtain rfl : args = #[v0, vx, v1, v2, v3] := by cases args; simp_all
  obtain ⟨rfl, rfl⟩ := trodVars_none hV
  obtain ⟨a0, rfl, rfl, rfl, w0⟩ := open_int Try.underlying5 (hval 0 5 v0 rfl rfl) h0
  obtain ⟨ax, rfl, rfl, rfl, wx⟩ := open_int Try.underlying3 (hval 1 3 vx rfl rfl) hx
  obtain ⟨a2, rfl, rfl, rfl, w2⟩ := open_int Try.underlying5 (hval 3 5 v2 rfl rfl) h2
  obtain ⟨a1, len1, cap1, rfl⟩ := okWide_slice Try.underlying22 (hval 2 22 v1 rfl rfl)
  obtain ⟨a3, len3, cap3, rfl⟩ := okWide_slice Try.underlying33 (hval 4 33 v3 rfl rfl)
  have k1 := h1
  have lt1 : ∀ x ∈ p1, x.block < W.heap.size := by obtain ⟨m, hm⟩ := k1; exact DataW.trod_lt m _ _ _ hm
  have k3 := h3
  have lt3 : ∀ x ∈ p3, x.block < W.heap.size := by obtain ⟨m, hm⟩ := k3; exact DataW.trod_lt m _ _ _ hm
  obtain ⟨l, w1⟩ : ∃ l, TrsIn (fun _ => True) W (.slice a1 len1 cap1) l := by
    obtain ⟨fuel, hf⟩ := h1
    obtain ⟨v, l, e, hl⟩ := open_trs hf
    simp [Value.cells] at e
    subst e
    exact ⟨l, hl⟩
  obtain ⟨bs, w3⟩ : ∃ bs, BytesIn (fun _ => True) W (.slice a3 len3 cap3) bs := by
    obtain ⟨fuel, hf⟩ := h3
    obtain ⟨v, l, e, hl⟩ := open_bytes hf
    simp [Value.cells] at e
    subst e
    exact ⟨l, hl⟩
  clear hA0 hval0
  refine (walk a0 ax a2 a1 len1 cap1 l a3 len3 cap3 bs W w1 w3).mono fun e W' ⟨he, bel⟩ => ?_
  subst he
  exact ⟨_, rfl, _, _, _, [], _, [], hW', trodAll_mk1 (shut_bool Try.underlying4 _),
    (trodAll_cons_mk (shut_int Try.underlying5 w0) (trodAll_cons_mk (shut_int Try.underlying3 wx) (trodAll_cons_mk (Below.trod laidOut (by kernel_rfl) (of_decide_eq_true (by kernel_rfl)) k1 bel lt1) (trodAll_cons_mk (shut_int Try.underlying5 w2) (trodAll_cons_mk (Below.trod laidOut (by kernel_rfl) (of_decide_eq_true (by kernel_rfl)) k3 bel lt3) trodAll_mk0))))), rfl, bel.frame _, fun h => by cases h⟩

theorem over : Rows.fnAcceptedTakesItsOwnOfferRow.holds Try.pinned (OpenSpec.ofChange Rows.fnAcceptedTakesItsOwnOfferSpec) :=
  OpenClaim.holds_of_wide 7 Try.f7 rfl rfl rfl rfl rfl rfl rfl ⟨rfl, rfl, rfl, rfl, rfl⟩ rfl rfl rfl rfl rfl (by kernel_rfl) Try.func7 (by kernel_rfl)
    (of_decide_eq_true (by kernel_rfl)) (by unfold Func.isWrapper; first | (rw [if_pos (by decide +kernel)]; kernel_rfl) | (rw [if_neg (by decide +kernel)]; exact ⟨rfl, rfl⟩))
    (fun os started H enc _ => lifted os started H enc)

theorem proved : Rows.FnAcceptedTakesItsOwnOfferSaid := over
end fnAcceptedTakesItsOwnOffer
end Go.Proofs.Qxb6600910a
