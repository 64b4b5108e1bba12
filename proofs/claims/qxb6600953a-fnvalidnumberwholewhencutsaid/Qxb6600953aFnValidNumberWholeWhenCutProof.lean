/-
  'Rows.FnValidNumberWholeWhenCutSaid': the walk of the law, in the frame that the skeleton tool wrote.
-/
import Derived.Test.Qxb6600953aRows
import Derived.Test.Qxb6600953aModel
import Derived.WalkKit
import Derived.ProofKit
import Derived.OpenShut
import Derived.ShutString
import Derived.ChangeOld
import Derived.Below
namespace Go.Proofs.Qxb6600953a.fnValidNumberWholeWhenCut
open Go.ChangeShapes Go.WideShapes Go.ChangeAt Go.RowKit
open Go.ChangeMaps (open_string shut_string)
set_option linter.unusedVariables false

theorem own : ownKnob Try.prog.godebug = none := by kernel_rfl
theorem laidOut : laidOutB Try.prog = true := by kernel_rfl

/-- WHAT THE WALK IS TOLD OF A SLICE OF INTEGERS THAT CAME IN: it is nil; or it leads to a row of 'cap' cells, the numbers 'zs' (the first 'len' are its elements, the rest its spare room), each fitting its kind. -/
def IsRow (k : IntKind) (w : World) (a : Option Addr) (len cap : Nat) (zs : List Int) : Prop :=
  (a = none ∧ len = 0 ∧ cap = 0 ∧ zs = []) ∨
  ∃ x, a = some x ∧ len ≤ cap ∧ cap ≤ maxLen ∧ zs.length = cap ∧ (∀ i, i < zs.length → w.cell? (x.add i) = some (.int k (zs.getD i 0))) ∧ ∀ n ∈ zs, (Lit.int k n).wf = true


/-- What the row says, in the words of the walks. -/
theorem IsRow.bytes {w : World} {a : Option Addr} {len cap : Nat} {zs : List Int} (h : IsRow .u8 w a len cap zs) : BytesAt w (.slice a len cap) (zs.take len) := by
  rcases h with ⟨rfl, rfl, rfl, rfl⟩ | ⟨x, rfl, h1, h2, h3, h4, h5⟩
  · exact .inl ⟨rfl, rfl⟩
  · have hl : (zs.take len).length = len := by rw [List.length_take]; omega
    obtain ⟨b, o, s⟩ := x
    refine .inr ⟨b, o, s, cap, by rw [hl], by omega, h2, fun i n hi => ?_⟩
    have hil : i < len := by have := (List.getElem?_eq_some_iff.1 hi).1; omega
    rw [List.getElem?_take_of_lt hil] at hi
    have hc := h4 i (by omega)
    have hs : s = none := by
      have := World.cell?_spot (h4 0 (by omega))
      simpa [Addr.add] using this
    subst hs
    rw [add_plain] at hc
    refine ⟨rfl, ?_, bounds_u8 (h5 n (List.mem_of_getElem? hi))⟩
    rw [hc, List.getD_eq_getElem?_getD, hi]; rfl

theorem bytesAt_take {w : World} {a : Option Addr} {len cap : Nat} {l : List Int} (h : BytesAt w (.slice a len cap) l) (r : Nat) (hr : r ≤ len) : BytesAt w (.slice a r cap) (l.take r) := by
  obtain ⟨hlen, hlc, hcap⟩ := h.len
  have hl : (l.take r).length = r := by rw [List.length_take]; omega
  rcases h with ⟨hv, rfl⟩ | ⟨b, o, s, c, hv, h1, h2, h3⟩
  · injection hv with e1 e2 e3
    subst e1; subst e2; subst e3
    obtain rfl : r = 0 := by omega
    exact .inl ⟨rfl, rfl⟩
  · injection hv with e1 e2 e3
    subst e1; subst e2; subst e3
    refine .inr ⟨b, o, s, cap, by rw [hl], by omega, h2, fun i n hi => ?_⟩
    have hil : i < r := by have := (List.getElem?_eq_some_iff.1 hi).1; omega
    rw [List.getElem?_take_of_lt hil] at hi
    exact h3 i n hi

/-- The plain law: a number is whole by itself. -/
theorem whole {l : List Int} {i k : Nat} (h : numLen (l.drop i) = some k) : res i ((l.take (i + k)).drop i) = ((i + k : Nat) : Int) := by
  have e : (l.take (i + k)).drop i = (l.drop i).take k := by rw [List.drop_take]; congr 1; omega
  rw [e]
  unfold res
  rw [numLen_take h]
  simp

set_option maxRecDepth 100000 in
set_option maxHeartbeats 1000000 in
theorem walk (a0 : Option Addr) (len0 cap0 : Nat) (z0 : List Int) (a1 : Int) (w : World) (w0 : IsRow .u8 w a0 len0 cap0 z0) (w1 : (Lit.int .i64 a1).wf = true) :
    Calls Try.prog 6 #[.slice a0 len0 cap0, .int .i64 a1] w fun e w' => e = .returned (.bool true) ∧ Below w.heap.size w w' := by
  obtain ⟨l, hl⟩ : ∃ l, BytesAt w (.slice a0 len0 cap0) l := ⟨_, w0.bytes⟩
  obtain ⟨hlen, hlc, hcap⟩ := hl.len
  unfold maxLen at hcap
  clear w0 w1
  by_cases h20 : 1048576 < len0
  · go_enter Try.func6, Try.ntmps6
    go_wp2
    go_ret
    exact ⟨rfl, Below.refl _ _⟩
  by_cases h16 : 65536 < len0
  · go_enter Try.func6, Try.ntmps6
    go_wp2
    go_ret
    exact ⟨rfl, Below.refl _ _⟩
  by_cases hi0 : a1 < 0
  · go_enter Try.func6, Try.ntmps6
    go_wp2
    go_ret
    exact ⟨rfl, Below.refl _ _⟩
  by_cases hi1 : (len0 : Int) ≤ a1
  · go_enter Try.func6, Try.ntmps6
    go_wp2
    go_ret
    exact ⟨rfl, Below.refl _ _⟩
  obtain ⟨i, rfl⟩ : ∃ i : Nat, a1 = i := ⟨a1.toNat, by omega⟩
  have H := hide hl
  clear hl hlc hcap
  cases hn : numLen (l.drop i) with
  | none =>
    have HR : Hid (res i (l.drop i) = -1) := by show res i (l.drop i) = -1; unfold res; rw [hn]
    clear hn hlen
    go_enter Try.func6, Try.ntmps6
    go_wp2_with (first
      | (go_at_call 13; refine (copy13 a0 len0 cap0 l _ (unhide H) (by omega)).mono ?_; rintro e w2 ⟨⟨v, rfl, hv⟩, hb⟩; obtain ⟨va, vc, rfl, _⟩ := hv.form; have hlen : l.length = len0 := (unhide H).len.1.symm; rw [hlen] at hv ⊢; clear hlen)
      | (go_at_call 14; refine (zzvalid14 _ len0 _ l i _ (by exact hv) (by omega) (by omega)).mono ?_; rintro e w3 ⟨rfl, rfl⟩; rw [HR.out])
      | (go_at_call 17; go_in))
    go_ret
    exact ⟨rfl, hb⟩
  | some k =>
    have hk := numLen_le hn
    rw [List.length_drop] at hk
    obtain ⟨hk1, hk2⟩ := hk
    have hr : i + k ≤ len0 := by omega
    have HR : Hid (res i (l.drop i) = ((i + k : Nat) : Int) ∧ res i ((l.take (i + k)).drop i) = ((i + k : Nat) : Int)) := ⟨by unfold res; rw [hn]; simp, whole hn⟩
    clear hn hlen hk2
    obtain ⟨r, hrr⟩ : ∃ r, r = i + k := ⟨_, rfl⟩
    rw [← hrr] at HR hr
    have hri : i < r := by omega
    clear hrr hk1
    go_enter Try.func6, Try.ntmps6
    go_wp2_with (first
      | (go_at_call 13; refine (copy13 a0 len0 cap0 l _ (unhide H) (by omega)).mono ?_; rintro e w2 ⟨⟨v, rfl, hv⟩, hb⟩; obtain ⟨va, vc, rfl, hvl, hvm⟩ := hv.form; have hlen : l.length = len0 := (unhide H).len.1.symm; rw [hlen] at hv hvl ⊢; clear hlen; unfold maxLen at hvm; obtain ⟨vb, vo, _, hva, _⟩ := hv.at (i := i) (by omega); subst hva)
      | (go_at_call 17; go_in))
    refine (zzvalid14 _ len0 _ l i _ (by exact hv) (by omega) (by omega)).mono ?_
    rintro e w3 ⟨rfl, rfl⟩
    rw [HR.out.1]
    go_wp2_with fail
    refine (zzvalid14 _ r _ (l.take r) i _ (by exact bytesAt_take hv r hr) (by omega) (by omega)).mono ?_
    rintro e w4 ⟨rfl, rfl⟩
    rw [HR.out.2]
    go_wp2
    go_ret
    exact ⟨rfl, hb⟩

/-! ### THE ROW's STEP: WRITTEN OUT: LEAVE IT -/
set_option maxRecDepth 100000 in
theorem lifted (os : Os) (started : os.Started) (H : Type) (enc : TypeId × Value → H) :
    ReturnsInHanded {} Try.checked os 6 .any (Rows.fnValidNumberWholeWhenCutSpec.pre6 enc Try.prog Try.f6 Rows.fnValidNumberWholeWhenCutRow.domain false) (Rows.fnValidNumberWholeWhenCutSpec.post enc Try.prog Try.f6 false true false false) := by
  refine returnsInHanded_of_change (C := Try.checked) own started (by kernel_rfl) Try.func6
    (ChangeSpec.witness6 (enc := enc) (C := Try.checked) false ⟨#[], #[.slice none 0 0, .int .i64 0], []⟩ 8 (by kernel_rfl) (by kernel_rfl) (by kernel_rfl) (by kernel_rfl)) ?_
  intro W base args ds gs before hval0 hW hcnd _
  have hval : ∀ (j : Nat) t v, Try.f6.params[j]? = some t → args[j]? = some v → Value.okWide Try.prog W .any base t v := hval0
  have hW' := hW
  obtain ⟨p, q, hA0, hV, rfl, hfz, hnd⟩ := hW
  have hA : DataW.TrodAll enc Try.prog W 0 (fun _ => true) true Try.f6.params.toList args.toList ds p := hA0
  rw [Try.params6] at hA hval
  obtain ⟨v0, vs0, d0, ds0, p0, q0, hargs, rfl, rfl, h0, r0⟩ := trodAll_cons hA
  obtain ⟨v1, vs1, d1, ds1, p1, q1, rfl, rfl, rfl, h1, r1⟩ := trodAll_cons r0
  obtain ⟨rfl, rfl, rfl⟩ := trodAll_nil r1
  obtain rfl : args = #[v0, v1] := by cases args; simp_all
  obtain ⟨rfl, rfl⟩ := trodVars_none hV
  obtain ⟨a0, len0, cap0, rfl⟩ := okWide_slice Try.underlying26 (hval 0 26 v0 rfl rfl)
  have k0 := h0
  have lt0 : ∀ x ∈ p0, x.block < W.heap.size := by obtain ⟨m, hm⟩ := k0; exact DataW.trod_lt m _ _ _ hm
  obtain ⟨z0, w0⟩ : ∃ zs, IsRow .u8 W a0 len0 cap0 zs := by
    obtain ⟨fuel, hf⟩ := h0
    rcases open_ints Try.underlying26 Try.underlying5 (by kernel_rfl) hf with ⟨hcs, _⟩ | ⟨x, l, c, zs, hcs, _, hl, hm, hz, _, hcell, hwz⟩
    · simp [Value.cells] at hcs
      obtain ⟨rfl, rfl, rfl⟩ := hcs
      exact ⟨[], .inl ⟨rfl, rfl, rfl, rfl⟩⟩
    · simp [Value.cells] at hcs
      obtain ⟨rfl, rfl, rfl⟩ := hcs
      exact ⟨zs, .inr ⟨_, rfl, hl, hm, by simpa using hz, hcell, hwz⟩⟩
  obtain ⟨a1, rfl, rfl, rfl, w1⟩ := open_int Try.underlying3 (hval 1 3 v1 rfl rfl) h1
  clear hA0 hval0
  refine (walk a0 len0 cap0 z0 a1 W w0 w1).mono fun e W' ⟨he, bel⟩ => ?_
  subst he
  exact ⟨_, rfl, _, _, _, [], _, [], hW', trodAll_mk1 (shut_bool Try.underlying4 _), (trodAll_cons_mk (Below.trod laidOut (by kernel_rfl) (of_decide_eq_true (by kernel_rfl)) k0 bel lt0) (trodAll_cons_mk (shut_int Try.underlying3 w1) trodAll_mk0)), rfl, bel.frame _, fun h => by cases h⟩

theorem over : Rows.fnValidNumberWholeWhenCutRow.holds Try.pinned (OpenSpec.ofChange Rows.fnValidNumberWholeWhenCutSpec) :=
  OpenClaim.holds_of_wide 6 Try.f6 rfl rfl rfl rfl rfl rfl rfl ⟨rfl, rfl, rfl, rfl, rfl⟩ rfl rfl rfl rfl rfl (by kernel_rfl) Try.func6 (by kernel_rfl)
    (of_decide_eq_true (by kernel_rfl)) (by unfold Func.isWrapper; first | (rw [if_pos (by decide +kernel)]; kernel_rfl) | (rw [if_neg (by decide +kernel)]; exact ⟨rfl, rfl⟩))
    (fun os started H enc _ => lifted os started H enc)

theorem proved : Rows.FnValidNumberWholeWhenCutSaid := over
end Go.Proofs.Qxb6600953a.fnValidNumberWholeWhenCut
