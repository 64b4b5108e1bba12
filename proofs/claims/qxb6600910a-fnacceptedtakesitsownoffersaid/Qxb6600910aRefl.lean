/-
  'Rows.FnHoldsIsReflexiveSaid': every list holds itself, handed as one slice or as two equal copies.
-/
import Derived.Test.Qxb6600910aRows
import Derived.Test.Qxb6600910aWire
import Derived.Test.Qxb6600910aSize
import Derived.Test.Qxb6600910aHolds
import Derived.Test.Qxb6600910aOpen
import Derived.ShutString
import Derived.ChangeOld
namespace Go.Proofs.Qxb6600910a
open Go.ChangeShapes Go.WideShapes Go.ChangeAt Go.RowKit

/-! ### The plain law -/
theorem eqA_refl (a : Attr) : eqA a a = true := by simp [eqA]
theorem eqAs_refl : ∀ l : List Attr, eqAs l l = true
  | [] => rfl
  | a :: l => by simp [eqAs, eqA_refl a, eqAs_refl l]
theorem eqT_refl (t : Tr) : eqT t t = true := by simp [eqT, eqAs_refl]
theorem holdsP_refl (l : List Tr) : holdsP l l = true := by
  unfold holdsP
  rw [Bool.and_eq_true, List.all_eq_true, List.all_eq_true]
  exact ⟨fun t ht => List.any_eq_true.2 ⟨t, ht, by simp⟩, fun t ht => List.any_eq_true.2 ⟨t, ht, eqT_refl t⟩⟩

namespace fnHoldsIsReflexive

theorem own : ownKnob Try.prog.godebug = none := by kernel_rfl
theorem laidOut : laidOutB Try.prog = true := by kernel_rfl

set_option maxRecDepth 100000 in
set_option maxHeartbeats 1000000 in
theorem walk (a : Option Addr) (len cap : Nat) (l : List Tr) (w : World) (h : TrsIn (fun _ => True) w (.slice a len cap) l) :
    Calls Try.prog 4 #[.slice a len cap] w fun e w' => e = .returned (.bool true) ∧ Below w.heap.size w w' := by
  have hsz := zzSize_any 0 a len cap l w (by omega) (by omega) h
  have hby := bytes15 a len cap l w h
  have H : Hid (TrsIn (fun _ => True) w (.slice a len cap) l) := h
  have HR : Hid (holdsP l l = true) := holdsP_refl l
  clear h
  have HSZ := hsz
  go_enter Try.func4, Try.ntmps4
  go_wp2_with fail
  refine hby.mono ?_
  rintro e w' ⟨⟨r, rfl, hsm⟩, rfl⟩
  clear hby
  cases r with
  | false =>
    go_wp2
    go_ret
    exact ⟨rfl, Below.refl _ _⟩
  | true =>
    have HS : Hid (Small l) := hsm rfl
    clear hsm
    go_wp2_with fail
    refine hsz.mono ?_
    rintro e w' ⟨⟨r, rfl, h1, h2⟩, rfl⟩
    clear hsz HSZ
    by_cases hr : 1048576 < r
    · go_wp2
      go_ret
      exact ⟨rfl, Below.refl _ _⟩
    by_cases hl : 4096 < len
    · go_wp2
      go_ret
      exact ⟨rfl, Below.refl _ _⟩
    go_wp2_with fail
    refine (toWire13 a len cap l w H.out HS.out).mono ?_
    rintro e w1 ⟨⟨v, rfl, hv⟩, hb1⟩
    obtain ⟨va, vc, rfl, _⟩ := hv.form
    go_wp2_with fail
    refine (holds12 _ _ _ _ _ _ l l w1 hv hv).mono ?_
    rintro e w2 ⟨rfl, hb2⟩
    rw [HR.out]
    have hb12 : Below w.heap.size w w2 := hb1.trans (hb2.mono hb1.size)
    have hv2 := hv.keep (keeps_of_below _ hb2)
    have H2 := H.out.keep (keeps_of_below _ hb12)
    go_wp2_with fail
    refine (toWire13 a len cap l w2 H2 HS.out).mono ?_
    rintro e w3 ⟨⟨v', rfl, hv'⟩, hb3⟩
    obtain ⟨va', vc', rfl, _⟩ := hv'.form
    go_wp2_with fail
    refine (holds12 _ _ _ _ _ _ l l w3 (hv2.keep (keeps_of_below _ hb3)) hv').mono ?_
    rintro e w4 ⟨rfl, hb4⟩
    rw [HR.out]
    have hb13 : Below w.heap.size w w3 := hb12.trans (hb3.mono hb12.size)
    have hb14 : Below w.heap.size w w4 := hb13.trans (hb4.mono hb13.size)
    clear hb1 hb2 hb3 hb4 hv hv' hv2 H2 hb12 hb13
    go_wp2
    go_ret
    exact ⟨rfl, hb14⟩

set_option maxRecDepth 100000 in
theorem lifted (os : Os) (started : os.Started) (H : Type) (enc : TypeId × Value → H) :
    ReturnsInHanded {} Try.checked os 4 .any (Rows.fnHoldsIsReflexiveSpec.pre6 enc Try.prog Try.f4 Rows.fnHoldsIsReflexiveRow.domain false) (Rows.fnHoldsIsReflexiveSpec.post enc Try.prog Try.f4 false true false false) := by
  refine returnsInHanded_of_change (C := Try.checked) own started (by kernel_rfl) Try.func4
    (ChangeSpec.witness6 (enc := enc) (C := Try.checked) false ⟨#[], #[.slice none 0 0], []⟩ 8 (by kernel_rfl) (by kernel_rfl) (by kernel_rfl) (by kernel_rfl)) ?_
  intro W base args ds gs before hval0 hW hcnd _
  have hval : ∀ (j : Nat) t v, Try.f4.params[j]? = some t → args[j]? = some v → Value.okWide Try.prog W .any base t v := hval0
  have hW' := hW
  obtain ⟨p, q, hA0, hV, rfl, hfz, hnd⟩ := hW
  have hA : DataW.TrodAll enc Try.prog W 0 (fun _ => true) true Try.f4.params.toList args.toList ds p := hA0
  rw [Try.params4] at hA hval
  obtain ⟨v0, vs0, d0, ds0, p0, q0, hargs, rfl, rfl, h0, r0⟩ := trodAll_cons hA
  obtain ⟨rfl, rfl, rfl⟩ := trodAll_nil r0
  obtain rfl : args = #[v0] := by cases args; simp_all
  obtain ⟨rfl, rfl⟩ := trodVars_none hV
  obtain ⟨a0, len0, cap0, rfl⟩ := okWide_slice Try.underlying22 (hval 0 22 v0 rfl rfl)
  have k0 := h0
  have lt0 : ∀ x ∈ p0, x.block < W.heap.size := by obtain ⟨m, hm⟩ := k0; exact DataW.trod_lt m _ _ _ hm
  obtain ⟨l, w0⟩ : ∃ l, TrsIn (fun _ => True) W (.slice a0 len0 cap0) l := by
    obtain ⟨fuel, hf⟩ := h0
    obtain ⟨v, l, e, hl⟩ := open_trs hf
    simp [Value.cells] at e
    subst e
    exact ⟨l, hl⟩
  clear hA0 hval0
  refine (walk a0 len0 cap0 l W w0).mono fun e W' ⟨he, bel⟩ => ?_
  subst he
  exact ⟨_, rfl, _, _, _, [], _, [], hW', trodAll_mk1 (shut_bool Try.underlying4 _), (trodAll_cons_mk (Below.trod laidOut (by kernel_rfl) (of_decide_eq_true (by kernel_rfl)) k0 bel lt0) trodAll_mk0), rfl, bel.frame _, fun h => by cases h⟩

theorem over : Rows.fnHoldsIsReflexiveRow.holds Try.pinned (OpenSpec.ofChange Rows.fnHoldsIsReflexiveSpec) :=
  OpenClaim.holds_of_wide 4 Try.f4 rfl rfl rfl rfl rfl rfl rfl ⟨rfl, rfl, rfl, rfl, rfl⟩ rfl rfl rfl rfl rfl (by kernel_rfl) Try.func4 (by kernel_rfl)
    (of_decide_eq_true (by kernel_rfl)) (by unfold Func.isWrapper; first | (rw [if_pos (by decide +kernel)]; kernel_rfl) | (rw [if_neg (by decide +kernel)]; exact ⟨rfl, rfl⟩))
    (fun os started H enc _ => lifted os started H enc)

theorem proved : Rows.FnHoldsIsReflexiveSaid := over
end fnHoldsIsReflexive
end Go.Proofs.Qxb6600910a
