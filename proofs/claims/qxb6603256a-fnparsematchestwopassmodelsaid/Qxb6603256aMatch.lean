/-
  'Rows.FnParseMatchesTwoPassModelSaid'.
-/
import Derived.Test.Qxb6603256aRows
import Derived.Test.Qxb6603256aParse
import Derived.Test.Qxb6603256aModel
import Derived.ProofKit
import Derived.OpenShut
import Derived.ShutString
import Derived.ChangeOld
namespace Go.Proofs.Qxb6603256a.fnParseMatchesTwoPassModel
open Go.ChangeShapes Go.WideShapes Go.ChangeAt Go.RowKit
open Go.ChangeMaps (open_string shut_string)

theorem own : ownKnob Try.prog.godebug = none := by kernel_rfl

def BytesRes (a : ByteArray) (w : World) (e : Ending) (w' : World) : Prop := (∃ r, e = .returned (.bool r) ∧ (r = true → a.size ≤ 1048576)) ∧ w = w'

theorem bytes6 (a : ByteArray) (w : World) (ha : a.size ≤ maxLen) :
    Calls Try.prog 6 #[.string a] w (BytesRes a w) := by
  have hm : a.size ≤ 9223372036854775807 := by unfold maxLen at ha; omega
  go_enter Try.func6, Try.ntmps6
  by_cases h : a.size ≤ 1048576
  · have h' : (a.size : Int) ≤ 1048576 := by omega
    go_wp2
    go_ret
    exact ⟨⟨_, rfl, fun _ => h⟩, rfl⟩
  · have h' : ¬ (a.size : Int) ≤ 1048576 := by omega
    go_wp2
    go_ret
    exact ⟨⟨_, rfl, fun e => by cases e⟩, rfl⟩

set_option maxRecDepth 100000 in
theorem walk (a0 : ByteArray) (w0 : a0.size ≤ maxLen) (w : World) :
    Calls Try.prog 3 #[.string a0] w fun e w' => e = .returned (.bool true) ∧ Below w.heap.size w w' := by
  have hm : a0.size ≤ 9223372036854775807 := by unfold maxLen at w0; omega
  go_enter Try.func3, Try.ntmps3
  go_wp2_with fail
  go_at_call 6
  refine (bytes6 a0 w w0).mono ?_
  rintro e w' ⟨⟨r, rfl, hr⟩, rfl⟩
  cases r with
  | false =>
    go_wp2
    go_ret
    exact ⟨rfl, Below.refl _ _⟩
  | true =>
    have hs := hr rfl
    clear hr
    go_wp2_with fail
    go_at_call 7
    refine (parse7 a0 w hs).mono ?_
    rintro e w1 ⟨rfl, hb1⟩
    have H1 : Hid (Below w.heap.size w w1) := hb1
    have HP := hide (parse_model (tx a0))
    clear hb1
    rw [HP.out]
    cases hmo : modelP (tx a0) with
    | none =>
      simp only [resV]
      go_wp2_with fail
      go_at_call 8
      refine (model8 a0 w1 hs).mono ?_
      rintro e w2 ⟨rfl, hb2⟩
      have H2 : Hid (Below w.heap.size w w2) := H1.out.trans (hb2.mono H1.out.size)
      clear hb2
      rw [hmo]
      simp only [resV]
      go_wp2
      go_ret
      exact ⟨rfl, H2.out⟩
    | some l =>
      simp only [resV]
      go_wp2_with fail
      go_at_call 8
      refine (model8 a0 w1 hs).mono ?_
      rintro e w2 ⟨rfl, hb2⟩
      have H2 : Hid (Below w.heap.size w w2) := H1.out.trans (hb2.mono H1.out.size)
      clear hb2
      rw [hmo]
      simp only [resV]
      go_wp2
      go_ret
      exact ⟨rfl, H2.out⟩

set_option maxRecDepth 100000 in
theorem lifted (os : Os) (started : os.Started) (H : Type) (enc : TypeId × Value → H) :
    ReturnsInHanded {} Try.checked os 3 .any (Rows.fnParseMatchesTwoPassModelSpec.pre6 enc Try.prog Try.f3 Rows.fnParseMatchesTwoPassModelRow.domain false) (Rows.fnParseMatchesTwoPassModelSpec.post enc Try.prog Try.f3 false true false false) := by
  refine returnsInHanded_of_change (C := Try.checked) own started (by kernel_rfl) Try.func3
    (ChangeSpec.witness6 (enc := enc) (C := Try.checked) false ⟨#[], #[.string ByteArray.empty], []⟩ 8 (by kernel_rfl) (by kernel_rfl) (by kernel_rfl) (by kernel_rfl)) ?_
  intro W base args ds gs before hval0 hW hcnd _
  have hval : ∀ (j : Nat) t v, Try.f3.params[j]? = some t → args[j]? = some v → Value.okWide Try.prog W .any base t v := hval0
  have hW' := hW
  obtain ⟨p, q, hA0, hV, rfl, hfz, hnd⟩ := hW
  have hA : DataW.TrodAll enc Try.prog W 0 (fun _ => true) true Try.f3.params.toList args.toList ds p := hA0
  rw [Try.params3] at hA hval
  obtain ⟨v0, vs0, d0, ds0, p0, q0, hargs, rfl, rfl, h0, r0⟩ := trodAll_cons hA
  obtain ⟨rfl, rfl, rfl⟩ := trodAll_nil r0
  obtain rfl : args = #[v0] := by cases args; simp_all
  obtain ⟨rfl, rfl⟩ := trodVars_none hV
  obtain ⟨a0, rfl, rfl, rfl, w0⟩ := open_string Try.underlying9 (hval 0 9 v0 rfl rfl) h0
  clear hA0 hval0
  simp only [List.append_nil] at hW'
  refine (walk a0 w0 W).mono fun e W' ⟨he, hg⟩ => ?_
  subst he
  exact ⟨_, rfl, _, _, _, [], _, [], hW', trodAll_mk1 (shut_bool Try.underlying4 _), (trodAll_cons_mk (shut_string Try.underlying9 w0) trodAll_mk0), rfl, hg.frame _, fun h => by cases h⟩

theorem over : Rows.fnParseMatchesTwoPassModelRow.holds Try.pinned (OpenSpec.ofChange Rows.fnParseMatchesTwoPassModelSpec) :=
  OpenClaim.holds_of_wide 3 Try.f3 rfl rfl rfl rfl rfl rfl rfl ⟨rfl, rfl, rfl, rfl, rfl⟩ rfl rfl rfl rfl rfl (by kernel_rfl) Try.func3 (by kernel_rfl)
    (of_decide_eq_true (by kernel_rfl)) (by unfold Func.isWrapper; first | (rw [if_pos (by decide +kernel)]; kernel_rfl) | (rw [if_neg (by decide +kernel)]; exact ⟨rfl, rfl⟩))
    (fun os started H enc _ => lifted os started H enc)

theorem proved : Rows.FnParseMatchesTwoPassModelSaid :=
  over
end Go.Proofs.Qxb6603256a.fnParseMatchesTwoPassModel
