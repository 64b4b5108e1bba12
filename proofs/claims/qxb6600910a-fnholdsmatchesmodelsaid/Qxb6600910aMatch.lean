/-
  'Rows.FnHoldsMatchesModelSaid': holds answers as the model by sorted keys.
-/
import Derived.Test.Qxb6600910aRows
import Derived.Test.Qxb6600910aWire
import Derived.Test.Qxb6600910aSize
import Derived.Test.Qxb6600910aHolds
import Derived.Test.Qxb6600910aOpen
import Derived.Test.Qxb6600910aBytesM
import Derived.Test.Qxb6600910aMark
import Derived.BigQuiet
import Derived.ShutString
import Derived.ChangeOld
namespace Go.Proofs.Qxb6600910a
open Go.ChangeShapes Go.WideShapes Go.ChangeAt Go.RowKit

theorem TrsIn.good {ok : Nat → Prop} {w : World} {a : Option Addr} {len cap : Nat} {l : List Tr} (h : TrsIn ok w (.slice a len cap) l) (hs : Small l) : ∀ t ∈ l, GoodT t := fun t ht => by
  obtain ⟨i, hi, he⟩ := List.getElem_of_mem ht
  have hg : l[i]? = some t := by rw [← he]; exact List.getElem?_eq_getElem hi
  have hl := h.len.1
  obtain ⟨b, o, x, u, _, hx, _, _, _, _, hu, r0, r1, r2, r3⟩ := h.at (i := i) (by omega)
  rw [hg] at hx
  injection hx with hx
  subst hx
  obtain ⟨s1, s2⟩ := hs.2 i t hg
  exact ⟨r0, r1, r2, r3, s1, fun j a ha => ⟨(hu.full j a ha).1.1, (hu.full j a ha).1.2, s2 j a ha⟩⟩

namespace fnHoldsMatchesModel

theorem own : ownKnob Try.prog.godebug = none := by kernel_rfl
theorem laidOut : laidOutB Try.prog = true := by kernel_rfl

set_option maxRecDepth 100000 in
set_option maxHeartbeats 1000000 in
theorem walk (a a' : Option Addr) (len cap len' cap' : Nat) (l m : List Tr) (w : World) (h : TrsIn (fun _ => True) w (.slice a len cap) l) (h' : TrsIn (fun _ => True) w (.slice a' len' cap') m) :
    Calls Try.prog 3 #[.slice a len cap, .slice a' len' cap'] w fun e w' => e = .returned (.bool true) ∧ Below w.heap.size w w' := by
  have hby := bytes10 a a' len cap len' cap' l m w h h'
  have H : Hid (TrsIn (fun _ => True) w (.slice a len cap) l ∧ TrsIn (fun _ => True) w (.slice a' len' cap') m) := ⟨h, h'⟩
  clear h h'
  go_enter Try.func3, Try.ntmps3
  go_wp2_with fail
  go_at_call 10
  refine hby.mono ?_
  rintro e w' ⟨⟨r, rfl, hsm⟩, rfl⟩
  clear hby
  cases r with
  | false =>
    go_wp2
    go_ret
    exact ⟨rfl, Below.refl _ _⟩
  | true =>
    have HS : Hid (Small l ∧ Small m) := hsm rfl
    clear hsm
    go_wp2_with fail
    go_at_call 11
    refine (zzSize_any 0 a len cap l w (by omega) (by omega) H.out.1).mono ?_
    rintro e w' ⟨⟨r0, rfl, h01, h02⟩, rfl⟩
    go_wp2_with fail
    go_at_call 11
    refine (zzSize_any r0 a' len' cap' m w (by omega) (by omega) H.out.2).mono ?_
    rintro e w' ⟨⟨r, rfl, h1, h2⟩, rfl⟩
    clear h01 h02
    by_cases hr : 1048576 < r
    · go_wp2
      go_ret
      exact ⟨rfl, Below.refl _ _⟩
    by_cases hl : 4096 < len
    · go_wp2
      go_ret
      exact ⟨rfl, Below.refl _ _⟩
    by_cases hl' : 4096 < len'
    · go_wp2
      go_ret
      exact ⟨rfl, Below.refl _ _⟩
    go_wp2_with fail
    go_at_call 13
    refine (toWire13 a len cap l w H.out.1 HS.out.1).mono ?_
    rintro e w1 ⟨⟨v, rfl, hv⟩, hb1⟩
    obtain ⟨va, vc, hvf, _⟩ := hv.form
    subst hvf
    have H1 : Hid (TrsIn (fun b => w.heap.size ≤ b) w1 (.slice va l.length vc) l ∧ Below w.heap.size w w1) := ⟨hv, hb1⟩
    clear hv hb1
    go_wp2_with fail
    go_at_call 13
    refine (toWire13 a' len' cap' m w1 (H.out.2.keep (keeps_of_below _ H1.out.2)) HS.out.2).mono ?_
    rintro e w2 ⟨⟨v, rfl, hv⟩, hb2⟩
    obtain ⟨vb, vd, hvf, _⟩ := hv.form
    subst hvf
    have H2 : Hid (TrsIn (fun b => w1.heap.size ≤ b) w2 (.slice vb m.length vd) m ∧ TrsIn (fun b => w.heap.size ≤ b) w2 (.slice va l.length vc) l ∧ Below w.heap.size w w2) := ⟨hv, H1.out.1.keep (keeps_of_below _ hb2), H1.out.2.trans (hb2.mono H1.out.2.size)⟩
    clear hv hb2
    go_wp2_with fail
    go_at_call 12
    refine (holds12 _ _ _ _ _ _ l m w2 H2.out.2.1 H2.out.1).mono ?_
    rintro e w3 ⟨rfl, hb3⟩
    have H3 : Hid (Below w.heap.size w w3) := H2.out.2.2.trans (hb3.mono H2.out.2.2.size)
    have HE : Hid (holdsP l m = modelP l m) := holds_model (H.out.1.good HS.out.1) (H.out.2.good HS.out.2)
    clear hb3
    rw [HE.out]
    go_wp2_with fail
    go_at_call 14
    refine (model14 _ _ l m w3 (H.out.1.keep (keeps_of_below _ H3.out)) (H.out.2.keep (keeps_of_below _ H3.out)) HS.out.1 HS.out.2).mono ?_
    rintro e w4 ⟨rfl, hb4⟩
    have H4 : Hid (Below w.heap.size w w4) := H3.out.trans (hb4.mono H3.out.size)
    clear hb4
    cases modelP l m
    · go_wp2
      go_ret
      exact ⟨rfl, H4.out⟩
    · go_wp2
      go_ret
      exact ⟨rfl, H4.out⟩

set_option maxRecDepth 100000 in
theorem lifted (os : Os) (started : os.Started) (H : Type) (enc : TypeId × Value → H) :
    ReturnsInHanded {} Try.checked os 3 .any (Rows.fnHoldsMatchesModelSpec.pre6 enc Try.prog Try.f3 Rows.fnHoldsMatchesModelRow.domain false) (Rows.fnHoldsMatchesModelSpec.post enc Try.prog Try.f3 false true false false) := by
  refine returnsInHanded_of_change (C := Try.checked) own started (by kernel_rfl) Try.func3
    (ChangeSpec.witness6 (enc := enc) (C := Try.checked) false ⟨#[], #[.slice none 0 0, .slice none 0 0], []⟩ 8 (by kernel_rfl) (by kernel_rfl) (by kernel_rfl) (by kernel_rfl)) ?_
  intro W base args ds gs before hval0 hW hcnd _
  have hval : ∀ (j : Nat) t v, Try.f3.params[j]? = some t → args[j]? = some v → Value.okWide Try.prog W .any base t v := hval0
  have hW' := hW
  obtain ⟨p, q, hA0, hV, rfl, hfz, hnd⟩ := hW
  have hA : DataW.TrodAll enc Try.prog W 0 (fun _ => true) true Try.f3.params.toList args.toList ds p := hA0
  rw [Try.params3] at hA hval
  obtain ⟨v0, vs0, d0, ds0, p0, q0, hargs, rfl, rfl, h0, r0⟩ := trodAll_cons hA
  obtain ⟨v1, vs1, d1, ds1, p1, q1, rfl, rfl, rfl, h1, r1⟩ := trodAll_cons r0
  obtain ⟨rfl, rfl, rfl⟩ := trodAll_nil r1
  obtain rfl : args = #[v0, v1] := by cases args; simp_all
  obtain ⟨rfl, rfl⟩ := trodVars_none hV
  obtain ⟨a0, len0, cap0, rfl⟩ := okWide_slice Try.underlying22 (hval 0 22 v0 rfl rfl)
  obtain ⟨a1, len1, cap1, rfl⟩ := okWide_slice Try.underlying22 (hval 1 22 v1 rfl rfl)
  have k0 := h0
  have lt0 : ∀ x ∈ p0, x.block < W.heap.size := by obtain ⟨m, hm⟩ := k0; exact DataW.trod_lt m _ _ _ hm
  have k1 := h1
  have lt1 : ∀ x ∈ p1, x.block < W.heap.size := by obtain ⟨m, hm⟩ := k1; exact DataW.trod_lt m _ _ _ hm
  obtain ⟨l, w0⟩ : ∃ l, TrsIn (fun _ => True) W (.slice a0 len0 cap0) l := by
    obtain ⟨fuel, hf⟩ := h0
    obtain ⟨v, l, e, hl⟩ := open_trs hf
    simp [Value.cells] at e
    subst e
    exact ⟨l, hl⟩
  obtain ⟨m, w1⟩ : ∃ l, TrsIn (fun _ => True) W (.slice a1 len1 cap1) l := by
    obtain ⟨fuel, hf⟩ := h1
    obtain ⟨v, l, e, hl⟩ := open_trs hf
    simp [Value.cells] at e
    subst e
    exact ⟨l, hl⟩
  clear hA0 hval0
  refine (walk a0 a1 len0 cap0 len1 cap1 l m W w0 w1).mono fun e W' ⟨he, bel⟩ => ?_
  subst he
  exact ⟨_, rfl, _, _, _, [], _, [], hW', trodAll_mk1 (shut_bool Try.underlying4 _), (trodAll_cons_mk (Below.trod laidOut (by kernel_rfl) (of_decide_eq_true (by kernel_rfl)) k0 bel lt0) (trodAll_cons_mk (Below.trod laidOut (by kernel_rfl) (of_decide_eq_true (by kernel_rfl)) k1 bel lt1) trodAll_mk0)), rfl, bel.frame _, fun h => by cases h⟩

theorem over : Rows.fnHoldsMatchesModelRow.holds Try.pinned (OpenSpec.ofChange Rows.fnHoldsMatchesModelSpec) :=
  OpenClaim.holds_of_wide 3 Try.f3 rfl rfl rfl rfl rfl rfl rfl ⟨rfl, rfl, rfl, rfl, rfl⟩ rfl rfl rfl rfl rfl (by kernel_rfl) Try.func3 (by kernel_rfl)
    (of_decide_eq_true (by kernel_rfl)) (by unfold Func.isWrapper; first | (rw [if_pos (by decide +kernel)]; kernel_rfl) | (rw [if_neg (by decide +kernel)]; exact ⟨rfl, rfl⟩))
    (fun os started H enc _ => lifted os started H enc)

theorem proved : Rows.FnHoldsMatchesModelSaid := over
end fnHoldsMatchesModel
end Go.Proofs.Qxb6600910a
