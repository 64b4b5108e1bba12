/-
  'Rows.FnValidNumberShiftsWithPrefixSaid': the walk of the law, in the frame that the skeleton tool wrote.
-/
import Derived.Test.Qxb6600953aRows
import Derived.Test.Qxb6600953aModel
import Derived.WalkKit
import Derived.ProofKit
import Derived.OpenShut
import Derived.ShutString
import Derived.ChangeOld
import Derived.Below
namespace Go.Proofs.Qxb6600953a.fnValidNumberShiftsWithPrefix
open Go.ChangeShapes Go.WideShapes Go.ChangeAt Go.RowKit
open Go.ChangeMaps (open_string shut_string)
set_option linter.unusedVariables false

theorem own : ownKnob Try.prog.godebug = none := by kernel_rfl
theorem laidOut : laidOutB Try.prog = true := by kernel_rfl

/-- WHAT THE WALK IS TOLD OF A SLICE OF INTEGERS THAT CAME IN: it is nil; or it leads to a row of 'cap' cells, the numbers 'zs' (the first 'len' are its elements, the rest its spare room), each fitting its kind. -/
def IsRow (k : IntKind) (w : World) (a : Option Addr) (len cap : Nat) (zs : List Int) : Prop :=
  (a = none ∧ len = 0 ∧ cap = 0 ∧ zs = []) ∨
  ∃ x, a = some x ∧ len ≤ cap ∧ cap ≤ maxLen ∧ zs.length = cap ∧ (∀ i, i < zs.length → w.cell? (x.add i) = some (.int k (zs.getD i 0))) ∧ ∀ n ∈ zs, (Lit.int k n).wf = true


/-- What the row says, in the words of the walks. -/
theorem IsRow.bytes {w : World} {a : Option Addr} {len cap : Nat} {zs : List Int} (h : IsRow .u8 w a len cap zs) : BytesAt w (.slice a len cap) (zs.take len) := by
  rcases h with ⟨rfl, rfl, rfl, rfl⟩ | ⟨x, rfl, h1, h2, h3, h4, h5⟩
  · exact .inl ⟨rfl, rfl⟩
  · have hl : (zs.take len).length = len := by rw [List.length_take]; omega
    obtain ⟨b, o, s⟩ := x
    refine .inr ⟨b, o, s, cap, by rw [hl], by omega, h2, fun i n hi => ?_⟩
    have hil : i < len := by have := (List.getElem?_eq_some_iff.1 hi).1; omega
    rw [List.getElem?_take_of_lt hil] at hi
    have hc := h4 i (by omega)
    have hs : s = none := by
      have := World.cell?_spot (h4 0 (by omega))
      simpa [Addr.add] using this
    subst hs
    rw [add_plain] at hc
    refine ⟨rfl, ?_, bounds_u8 (h5 n (List.mem_of_getElem? hi))⟩
    rw [hc, List.getD_eq_getElem?_getD, hi]; rfl

set_option maxRecDepth 100000 in
set_option maxHeartbeats 2000000 in
theorem walk (a0 : Option Addr) (len0 cap0 : Nat) (z0 : List Int) (a1 : Option Addr) (len1 cap1 : Nat) (z1 : List Int) (w : World) (w0 : IsRow .u8 w a0 len0 cap0 z0) (w1 : IsRow .u8 w a1 len1 cap1 z1) :
    Calls Try.prog 5 #[.slice a0 len0 cap0, .slice a1 len1 cap1] w fun e w' => e = .returned (.bool true) ∧ Below w.heap.size w w' := by
  obtain ⟨lp, hp⟩ : ∃ l, BytesAt w (.slice a0 len0 cap0) l := ⟨_, w0.bytes⟩
  obtain ⟨ls, hs⟩ : ∃ l, BytesAt w (.slice a1 len1 cap1) l := ⟨_, w1.bytes⟩
  obtain ⟨hlen0, hlc0, hcap0⟩ := hp.len
  obtain ⟨hlen1, hlc1, hcap1⟩ := hs.len
  unfold maxLen at hcap0 hcap1
  clear w0 w1
  by_cases h20 : 1048576 < len0
  · go_enter Try.func5, Try.ntmps5
    go_wp2
    go_ret
    exact ⟨rfl, Below.refl _ _⟩
  by_cases g20 : 1048576 < len1
  · go_enter Try.func5, Try.ntmps5
    go_wp2
    go_ret
    exact ⟨rfl, Below.refl _ _⟩
  by_cases s20 : 1048576 < len0 + len1
  · go_enter Try.func5, Try.ntmps5
    go_wp2
    go_ret
    exact ⟨rfl, Below.refl _ _⟩
  by_cases h16 : 65536 < len0
  · go_enter Try.func5, Try.ntmps5
    go_wp2
    go_ret
    exact ⟨rfl, Below.refl _ _⟩
  by_cases g16 : 65536 < len1
  · go_enter Try.func5, Try.ntmps5
    go_wp2
    go_ret
    exact ⟨rfl, Below.refl _ _⟩
  by_cases hz : len1 = 0
  · have hz' : ((len1 : Int) == 0) = true := by simp; omega
    clear hz
    go_enter Try.func5, Try.ntmps5
    go_wp2
    go_ret
    exact ⟨rfl, Below.refl _ _⟩
  have hz' : ((len1 : Int) == 0) = false := by simp; omega
  have hpos : 0 < len1 := by omega
  have H : Hid (BytesAt w (.slice a0 len0 cap0) lp ∧ BytesAt w (.slice a1 len1 cap1) ls ∧ len0 = lp.length ∧ len1 = ls.length) := ⟨hp, hs, hlen0, hlen1⟩
  have hmk := run_make_row' (P := Try.prog) 26 5 (.int .u8 0) 1 Try.underlying26 Try.info5 rfl .i64 .i64 (len0 + len1) (by omega) (by omega)
  rw [show ((len0 + len1 : Nat) : Int) = (len0 : Int) + (len1 : Int) by omega] at hmk
  clear hp hs hlc0 hcap0 hlc1 hcap1 hz hlen0 hlen1
  go_enter Try.func5, Try.ntmps5
  go_wp2_with (go_at_call 16; go_in)
  refine (copy13 a0 len0 cap0 lp _ H.out.1 (by omega)).mono ?_
  rintro e w2 ⟨⟨v, rfl, hv⟩, hb⟩
  obtain ⟨va, vc, rfl, _⟩ := hv.form
  have hl0 := H.out.2.2.1
  rw [← hl0] at hv ⊢
  clear hl0
  go_wp2_with fail
  refine (copy13 a1 len1 cap1 ls _ (H.out.2.1.keep hb) (by omega)).mono ?_
  rintro e w3 ⟨⟨v', rfl, hv'⟩, hb'⟩
  obtain ⟨va', vc', rfl, _⟩ := hv'.form
  have hl1 := H.out.2.2.2
  rw [← hl1] at hv' ⊢
  clear hl1
  go_wp2_with fail
  refine (zzvalid14 _ len1 _ ls 0 _ (by exact hv') hpos (by omega)).mono ?_
  rintro e w4 ⟨rfl, rfl⟩
  obtain ⟨r1, hr1⟩ : ∃ r, r = res ((0 : Nat) : Int) (ls.drop 0) := ⟨_, rfl⟩
  rw [← hr1]
  have HR1 := hide hr1
  clear hr1
  have HV : Hid (BytesAt w3 (.slice va len0 vc) lp ∧ BytesAt w3 (.slice va' len1 vc') ls ∧ Below w.heap.size w w3) := ⟨hv.keep hb', hv', hb.trans (hb'.mono hb.size)⟩
  clear hv hv' hb hb'
  go_wp2_with fail
  go_loopw [7] (fun i wr => ∃ k : Nat, k ≤ len0 ∧ i = .int .i64 k ∧ wr.rowIs w3.heap.size 5 (len0 + len1) (cl (lp ++ ls) k) ∧ Below w3.heap.size w3 wr) (fun i _ => len0 - (intOf i).toNat)
  case atStart => exact ⟨0, Nat.zero_le _, rfl, (World.rowIs_made w3 (.int .u8 0) (len0 + len1) 5).congr (fun i _ => (cl_zero _ i).symm), (Below.refl _ _).alloc (Nat.le_refl _) _⟩
  case round =>
    obtain ⟨k, hk, rfl, hrow, hbel⟩ := hrel
    by_cases hlt : k < len0
    · obtain ⟨b, o, n, rfl, hn, hc, hn0, hn1⟩ := HV.out.1.at hlt
      have hc' : wr.cell? ⟨b, o + k, none⟩ = some (.int .u8 n) := by rw [hbel.cell (by exact cell_lt hc)]; exact hc
      have hd : wr.cell? ⟨w3.heap.size, k, none⟩ = some (cl (lp ++ ls) k k) := hrow.cell (by omega)
      have hf : wr.frozen? ⟨w3.heap.size, k, none⟩ = false := hrow.frozen k
      have hn' : (lp ++ ls)[k]? = some n := by rw [List.getElem?_append_left (by have := H.out.2.2.1; omega)]; exact hn
      have HR : Hid ((wr.setCell ⟨w3.heap.size, k, none⟩ (.int .u8 n)).rowIs w3.heap.size 5 (len0 + len1) (cl (lp ++ ls) (k + 1)) ∧ Below w3.heap.size w3 (wr.setCell ⟨w3.heap.size, k, none⟩ (.int .u8 n))) :=
        ⟨(hrow.set k _).congr (fun j _ => cl_succ hn' j), hbel.setCell (Nat.le_refl _) _⟩
      clear hrow hbel hc hn hn'
      go_wp2
      go_roundw
      case rel => exact ⟨k + 1, by omega, by go_num, HR.out.1, HR.out.2⟩
      case measure => simp [intOf]; omega
    · have hke : k = len0 := by omega
      rw [hke] at hrow
      rename World => w4
      have HW := hide (And.intro hrow hbel)
      clear hrow hbel hke
      go_wp2
      go_loopw [8] (fun i wr => ∃ k : Nat, k ≤ len1 ∧ i = .int .i64 k ∧ wr.rowIs w3.heap.size 5 (len0 + len1) (cl (lp ++ ls) (len0 + k)) ∧ Below w3.heap.size w3 wr) (fun i _ => len1 - (intOf i).toNat)
      case atStart => exact ⟨0, Nat.zero_le _, rfl, HW.out.1, HW.out.2⟩
      case round =>
        clear HW hlt hk
        obtain ⟨q, hq, rfl, hrow, hbel⟩ := hrel
        by_cases hql : q < len1
        · obtain ⟨b, o, n, rfl, hn, hc, hn0, hn1⟩ := HV.out.2.1.at hql
          have hc' : wr.cell? ⟨b, o + q, none⟩ = some (.int .u8 n) := by rw [hbel.cell (by exact cell_lt hc)]; exact hc
          have hd : wr.cell? ⟨w3.heap.size, len0 + q, none⟩ = some (cl (lp ++ ls) (len0 + q) (len0 + q)) := hrow.cell (by omega)
          have hf : wr.frozen? ⟨w3.heap.size, len0 + q, none⟩ = false := hrow.frozen _
          have hn' : (lp ++ ls)[len0 + q]? = some n := by
            have h0 := H.out.2.2.1
            rw [List.getElem?_append_right (by omega), show len0 + q - lp.length = q by omega]; exact hn
          have HR : Hid ((wr.setCell ⟨w3.heap.size, len0 + q, none⟩ (.int .u8 n)).rowIs w3.heap.size 5 (len0 + len1) (cl (lp ++ ls) (len0 + (q + 1))) ∧ Below w3.heap.size w3 (wr.setCell ⟨w3.heap.size, len0 + q, none⟩ (.int .u8 n))) :=
            ⟨(hrow.set (len0 + q) _).congr (fun j _ => cl_succ hn' j), hbel.setCell (Nat.le_refl _) _⟩
          clear hrow hbel hc hn hn'
          go_wp2
          go_roundw
          case rel => exact ⟨q + 1, by omega, by go_num, HR.out.1, HR.out.2⟩
          case measure => simp [intOf]; omega
        · have hqe : q = len1 := by omega
          rw [hqe] at hrow
          have hbuf : BytesAt wr (.slice (some ⟨w3.heap.size, 0, none⟩) (len0 + len1) (len0 + len1)) (lp ++ ls) := by
            have h0 := H.out.2.2.1
            have h1 := H.out.2.2.2
            have hl : (lp ++ ls).length = len0 + len1 := by rw [List.length_append]; omega
            rw [← hl] at hrow
            have := bytesAt_of_row (cap := (lp ++ ls).length) hrow (Nat.le_refl _) (by rw [hl]; unfold maxLen; omega) (fun i n hi => ?_)
            · rw [hl] at this; exact this
            · by_cases hil : i < lp.length
              · rw [List.getElem?_append_left hil] at hi; exact HV.out.1.range i n hi
              · rw [List.getElem?_append_right (by omega)] at hi; exact HV.out.2.1.range _ n hi
          have hbw : Below w.heap.size w wr := HV.out.2.2.trans (hbel.mono HV.out.2.2.size)
          have hdr : (lp ++ ls).drop len0 = ls := by have h0 := H.out.2.2.1; rw [h0]; simp
          have HD := hide hdr
          have HF := hide (And.intro hbuf hbw)
          clear hrow hbel hqe hbuf hbw hdr
          cases hn : numLen ls with
          | none =>
            have HN : Hid (res len0 ls = -1) := by show res len0 ls = -1; unfold res; rw [hn]
            have h1 : r1 = -1 := by rw [HR1.out]; unfold res; rw [List.drop_zero, hn]
            clear hn HR1
            subst h1
            go_wp2_with fail
            refine (zzvalid14 _ (len0 + len1) _ (lp ++ ls) len0 _ (by exact HF.out.1) (by omega) (by omega)).mono ?_
            rintro e w6 ⟨rfl, rfl⟩
            rw [HD.out, HN.out]
            go_wp2
            go_ret
            exact ⟨rfl, HF.out.2⟩
          | some k =>
            obtain ⟨hk1, hk2⟩ := numLen_le hn
            have hk3 : k ≤ len1 := by have := H.out.2.2.2; omega
            have HN : Hid (res len0 ls = (len0 : Int) + k) := by show res len0 ls = _; unfold res; rw [hn]
            have h1 : r1 = (k : Int) := by rw [HR1.out]; unfold res; rw [List.drop_zero, hn]; simp
            clear hn hk2 HR1
            subst h1
            go_wp2_with fail
            refine (zzvalid14 _ (len0 + len1) _ (lp ++ ls) len0 _ (by exact HF.out.1) (by omega) (by omega)).mono ?_
            rintro e w6 ⟨rfl, rfl⟩
            rw [HD.out, HN.out]
            go_wp2
            go_ret
            exact ⟨rfl, HF.out.2⟩

/-! ### THE ROW's STEP: WRITTEN OUT: LEAVE IT -/
set_option maxRecDepth 100000 in
theorem lifted (os : Os) (started : os.Started) (H : Type) (enc : TypeId × Value → H) :
    ReturnsInHanded {} Try.checked os 5 .any (Rows.fnValidNumberShiftsWithPrefixSpec.pre6 enc Try.prog Try.f5 Rows.fnValidNumberShiftsWithPrefixRow.domain false) (Rows.fnValidNumberShiftsWithPrefixSpec.post enc Try.prog Try.f5 false true false false) := by
  refine returnsInHanded_of_change (C := Try.checked) own started (by kernel_rfl) Try.func5
    (ChangeSpec.witness6 (enc := enc) (C := Try.checked) false ⟨#[], #[.slice none 0 0, .slice none 0 0], []⟩ 8 (by kernel_rfl) (by kernel_rfl) (by kernel_rfl) (by kernel_rfl)) ?_
  intro W base args ds gs before hval0 hW hcnd _
  have hval : ∀ (j : Nat) t v, Try.f5.params[j]? = some t → args[j]? = some v → Value.okWide Try.prog W .any base t v := hval0
  have hW' := hW
  obtain ⟨p, q, hA0, hV, rfl, hfz, hnd⟩ := hW
  have hA : DataW.TrodAll enc Try.prog W 0 (fun _ => true) true Try.f5.params.toList args.toList ds p := hA0
  rw [Try.params5] at hA hval
  obtain ⟨v0, vs0, d0, ds0, p0, q0, hargs, rfl, rfl, h0, r0⟩ := trodAll_cons hA
  obtain ⟨v1, vs1, d1, ds1, p1, q1, rfl, rfl, rfl, h1, r1⟩ := trodAll_cons r0
  obtain ⟨rfl, rfl, rfl⟩ := trodAll_nil r1
  obtain rfl : args = #[v0, v1] := by cases args; simp_all
  obtain ⟨rfl, rfl⟩ := trodVars_none hV
  obtain ⟨a0, len0, cap0, rfl⟩ := okWide_slice Try.underlying26 (hval 0 26 v0 rfl rfl)
  have k0 := h0
  have lt0 : ∀ x ∈ p0, x.block < W.heap.size := by obtain ⟨m, hm⟩ := k0; exact DataW.trod_lt m _ _ _ hm
  obtain ⟨z0, w0⟩ : ∃ zs, IsRow .u8 W a0 len0 cap0 zs := by
    obtain ⟨fuel, hf⟩ := h0
    rcases open_ints Try.underlying26 Try.underlying5 (by kernel_rfl) hf with ⟨hcs, _⟩ | ⟨x, l, c, zs, hcs, _, hl, hm, hz, _, hcell, hwz⟩
    · simp [Value.cells] at hcs
      obtain ⟨rfl, rfl, rfl⟩ := hcs
      exact ⟨[], .inl ⟨rfl, rfl, rfl, rfl⟩⟩
    · simp [Value.cells] at hcs
      obtain ⟨rfl, rfl, rfl⟩ := hcs
      exact ⟨zs, .inr ⟨_, rfl, hl, hm, by simpa using hz, hcell, hwz⟩⟩
  obtain ⟨a1, len1, cap1, rfl⟩ := okWide_slice Try.underlying26 (hval 1 26 v1 rfl rfl)
  have k1 := h1
  have lt1 : ∀ x ∈ p1, x.block < W.heap.size := by obtain ⟨m, hm⟩ := k1; exact DataW.trod_lt m _ _ _ hm
  obtain ⟨z1, w1⟩ : ∃ zs, IsRow .u8 W a1 len1 cap1 zs := by
    obtain ⟨fuel, hf⟩ := h1
    rcases open_ints Try.underlying26 Try.underlying5 (by kernel_rfl) hf with ⟨hcs, _⟩ | ⟨x, l, c, zs, hcs, _, hl, hm, hz, _, hcell, hwz⟩
    · simp [Value.cells] at hcs
      obtain ⟨rfl, rfl, rfl⟩ := hcs
      exact ⟨[], .inl ⟨rfl, rfl, rfl, rfl⟩⟩
    · simp [Value.cells] at hcs
      obtain ⟨rfl, rfl, rfl⟩ := hcs
      exact ⟨zs, .inr ⟨_, rfl, hl, hm, by simpa using hz, hcell, hwz⟩⟩
  clear hA0 hval0
  refine (walk a0 len0 cap0 z0 a1 len1 cap1 z1 W w0 w1).mono fun e W' ⟨he, bel⟩ => ?_
  subst he
  exact ⟨_, rfl, _, _, _, [], _, [], hW', trodAll_mk1 (shut_bool Try.underlying4 _), (trodAll_cons_mk (Below.trod laidOut (by kernel_rfl) (of_decide_eq_true (by kernel_rfl)) k0 bel lt0) (trodAll_cons_mk (Below.trod laidOut (by kernel_rfl) (of_decide_eq_true (by kernel_rfl)) k1 bel lt1) trodAll_mk0)), rfl, bel.frame _, fun h => by cases h⟩

theorem over : Rows.fnValidNumberShiftsWithPrefixRow.holds Try.pinned (OpenSpec.ofChange Rows.fnValidNumberShiftsWithPrefixSpec) :=
  OpenClaim.holds_of_wide 5 Try.f5 rfl rfl rfl rfl rfl rfl rfl ⟨rfl, rfl, rfl, rfl, rfl⟩ rfl rfl rfl rfl rfl (by kernel_rfl) Try.func5 (by kernel_rfl)
    (of_decide_eq_true (by kernel_rfl)) (by unfold Func.isWrapper; first | (rw [if_pos (by decide +kernel)]; kernel_rfl) | (rw [if_neg (by decide +kernel)]; exact ⟨rfl, rfl⟩))
    (fun os started H enc _ => lifted os started H enc)

theorem proved : Rows.FnValidNumberShiftsWithPrefixSaid := over
end Go.Proofs.Qxb6600953a.fnValidNumberShiftsWithPrefix
