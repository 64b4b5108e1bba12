/-
  zzToWire: fresh wire transforms, deep.
-/
import Derived.Test.Qxb6600910aWireP
import Derived.Test.Qxb6600910aBytes
namespace Go.Proofs.Qxb6600910a
open Go.RowKit

theorem Try.info61 : (Try.prog.info? 61).map (fun i => (i.zero, i.size, i.bytes)) = some (some (.agg #[.int .u8 0, .int .u16 0, .slice none 0 0]), 3, 32) := by kernel_rfl
theorem Try.info66 : (Try.prog.info? 66).map (fun i => (i.zero, i.size, i.bytes)) = some (some (.agg #[.int .u16 0, .bool false, .slice none 0 0]), 3, 32) := by kernel_rfl

/-- The world behind the stores of a transform's two plain fields. -/
def twoW (wr : World) (N k : Nat) (t : Tr) : World := (wr.setCell ⟨N, k * 3, none⟩ (.int .u8 t.ty)).setCell ⟨N, k * 3 + 1, none⟩ (.int .u16 t.id)
/-- The world behind the stores of an attribute's two plain fields. -/
def twoV (wr : World) (N k : Nat) (t : Attr) : World := (wr.setCell ⟨N, k * 3, none⟩ (.int .u16 t.ty)).setCell ⟨N, k * 3 + 1, none⟩ (.bool t.tv)
theorem size_twoW (wr : World) (N k : Nat) (t : Tr) : (twoW wr N k t).heap.size = wr.heap.size := by simp [twoW]
theorem size_twoV (wr : World) (N k : Nat) (t : Attr) : (twoV wr N k t).heap.size = wr.heap.size := by simp [twoV]

set_option maxRecDepth 100000 in
set_option maxHeartbeats 2000000 in
theorem toWire13 {ok : Nat → Prop} (a : Option Addr) (len cap : Nat) (l : List Tr) (w : World) (h : TrsIn ok w (.slice a len cap) l) (hs : Small l) :
    Calls Try.prog 13 #[.slice a len cap] w (Gives w (fun w' v => TrsIn (fun b => w.heap.size ≤ b) w' v l)) := by
  obtain ⟨hlen, hlc, hcap⟩ := h.len
  have hl20 : len ≤ 1048576 := by have := hs.1; omega
  have hnil := fun w a n c => Lib.run_eql_slice_nil (P := Try.prog) w 22 55 a n c 0 0 Try.underlying22
  have hmk := run_make_row3 (P := Try.prog) 26 61 (.int .u8 0) (.int .u16 0) (.slice none 0 0) 32 Try.underlying26 Try.info61 .i64 .i64 len (by omega) (by omega)
  have H : Hid (TrsIn (fun b => b < w.heap.size) w (.slice a len cap) l ∧ len = l.length ∧ len ≤ maxLen ∧ Small l) := ⟨h.weak (fun b _ hb => hb), hlen, Nat.le_trans hlc hcap, hs⟩
  clear hlen h hcap hlc hs
  cases a with
  | none =>
    go_enter Try.func13, Try.ntmps13
    go_wp2
    go_ret
    exact ⟨⟨_, rfl, .inl ⟨rfl, H.out.1.nil⟩⟩, Below.refl _ _⟩
  | some x =>
    go_enter Try.func13, Try.ntmps13
    go_wp2
    go_loopw [4] (fun i wr => ∃ k : Nat, k ≤ len ∧ i = .int .i64 k ∧ PartW wr w.heap.size len l k ∧ Below w.heap.size w wr) (fun i _ => len - (intOf i).toNat)
    case atStart => exact ⟨0, Nat.zero_le _, rfl, PartW.start w len l, (Below.refl _ _).alloc (Nat.le_refl _) _⟩
    case round =>
      rename World => w1
      obtain ⟨k, hk, rfl, hpart, hbel⟩ := hrel
      by_cases hlt : k < len
      · obtain ⟨b, o, t, u, hx, ht, _, hc0, hc1, hc2, hu, _⟩ := H.out.1.at hlt
        injection hx with hx; subst hx
        have hbN : ¬ b = w.heap.size := by have := cell_lt hc0; simp at this; omega
        have hc0' : w1.cell? ⟨b, o + k * 3, none⟩ = some (.int .u8 t.ty) := by rw [hbel.cell (by exact cell_lt hc0)]; exact hc0
        have hc1' : w1.cell? ⟨b, o + k * 3 + 1, none⟩ = some (.int .u16 t.id) := by rw [hbel.cell (by exact cell_lt hc1)]; exact hc1
        have hc2' : w1.cell? ⟨b, o + k * 3 + 2, none⟩ = some u := by rw [hbel.cell (by exact cell_lt hc2)]; exact hc2
        obtain ⟨v0, hd0⟩ := hpart.cell (k * 3) (by omega)
        obtain ⟨v1, hd1⟩ := hpart.cell (k * 3 + 1) (by omega)
        obtain ⟨v2, hd2⟩ := hpart.cell (k * 3 + 2) (by omega)
        have hf0 := hpart.frozen (k * 3)
        have hf1 := hpart.frozen (k * 3 + 1)
        have hf2 := hpart.frozen (k * 3 + 2)
        obtain ⟨ua, uc, rfl, hul, hum⟩ := hu.form
        have hsm : SmallT t := H.out.2.2.2.2 k t ht
        have hsz := hbel.size
        have hpt := hpart.lt
        have HP : Hid (PartW2 (twoW w1 w.heap.size k t) w.heap.size len l k t ∧ l[k]? = some t
           ∧ Below w.heap.size w (twoW w1 w.heap.size k t) ∧ AttrsIn (fun b => b < w.heap.size) w (.slice ua t.ats.length uc) t.ats ∧ SmallT t ∧ t.ats.length ≤ maxLen) :=
          ⟨hpart.two t, ht, (hbel.setCell (Nat.le_refl _) _).setCell (Nat.le_refl _) _, hu, hsm, Nat.le_trans hul hum⟩
        have ht20 : t.ats.length ≤ 1048576 := hsm.1
        have hnil2 := fun w a n c => run_neq_slice_nil_any (P := Try.prog) w 53 64 a n c 0 0 Try.underlying53
        clear hpart hbel hc0 hc1 hc2 hu hsm ht hul hum
        cases ua with
        | none =>
          go_wp2
          go_roundw
          case rel => exact ⟨k + 1, by omega, by go_num, HP.out.1.bare HP.out.2.1 HP.out.2.2.2.1.nil, HP.out.2.2.1⟩
          case measure => simp [intOf]; omega
        | some y =>
          have hmk2 := run_make_row3 (P := Try.prog) 59 66 (.int .u16 0) (.bool false) (.slice none 0 0) 32 Try.underlying59 Try.info66 .i64 .i64 t.ats.length (by omega) (by omega)
          go_wp2
          go_loopw [7] (fun i wr => ∃ j : Nat, j ≤ t.ats.length ∧ i = .int .i64 j ∧ PartV wr w1.heap.size t.ats.length t.ats j ∧ Below w1.heap.size (twoW w1 w.heap.size k t) wr) (fun i _ => t.ats.length - (intOf i).toNat)
          case atStart =>
            refine ⟨0, Nat.zero_le _, rfl, ?_, ?_⟩
            · have := rowIs_made3 (twoW w1 w.heap.size k t) (.int .u16 0) (.bool false) (.slice none 0 0) t.ats.length 66
              rw [size_twoW] at this
              exact PartV.start this
            · exact (Below.refl _ _).alloc (by rw [size_twoW]; exact Nat.le_refl _) _
          case round =>
            clear hc0' hc1' hc2' hd0 hd1 hd2 hf0 hf1 hf2 hmk2 hnil2
            obtain ⟨j, hj, rfl, hpv, hbq⟩ := hrel
            have hbw : Below w.heap.size w wr := HP.out.2.2.1.trans (hbq.mono (by omega))
            by_cases hjl : j < t.ats.length
            · obtain ⟨b2, o2, z, u2, hy, hz, hok, he0, he1, he2, hv, _⟩ := HP.out.2.2.2.1.at hjl
              injection hy with hy; subst hy
              have hb2 : ¬ b2 = w1.heap.size := by omega
              have he0' : wr.cell? ⟨b2, o2 + j * 3, none⟩ = some (.int .u16 z.ty) := by rw [hbw.cell (by exact cell_lt he0)]; exact he0
              have he1' : wr.cell? ⟨b2, o2 + j * 3 + 1, none⟩ = some (.bool z.tv) := by rw [hbw.cell (by exact cell_lt he1)]; exact he1
              have he2' : wr.cell? ⟨b2, o2 + j * 3 + 2, none⟩ = some u2 := by rw [hbw.cell (by exact cell_lt he2)]; exact he2
              obtain ⟨x0, hg0⟩ := hpv.cell (j * 3) (by omega)
              obtain ⟨x1, hg1⟩ := hpv.cell (j * 3 + 1) (by omega)
              obtain ⟨x2, hg2⟩ := hpv.cell (j * 3 + 2) (by omega)
              have hh0 := hpv.frozen (j * 3)
              have hh1 := hpv.frozen (j * 3 + 1)
              obtain ⟨va, vc, rfl, hvl, hvm⟩ := hv.form
              have hv20 : z.val.length ≤ 1048576 := HP.out.2.2.2.2.1.2 j z hz
              have hwB : Below w.heap.size w (twoV wr w1.heap.size j z) := (hbw.setCell (by simp; omega) _).setCell (by simp; omega) _
              have HQ : Hid (PartV2 (twoV wr w1.heap.size j z) w1.heap.size t.ats.length t.ats j z ∧ t.ats[j]? = some z ∧ Below w1.heap.size (twoW w1 w.heap.size k t) (twoV wr w1.heap.size j z) ∧ BytesIn (fun b => b < w.heap.size) (twoV wr w1.heap.size j z) (.slice va z.val.length vc) z.val) :=
                ⟨hpv.two z, hz, (hbq.setCell (Nat.le_refl _) _).setCell (Nat.le_refl _) _, hv.keep (keeps_of_below_lt hwB (fun b hb => hb))⟩
              clear hpv hbq hbw he0 he1 he2 hv hvl hvm hz hwB hok
              go_wp2_with fail
              refine (clone26 va z.val.length vc z.val _ (by exact HQ.out.2.2.2) hv20).mono ?_
              rintro e w4 ⟨⟨v, rfl, hv4⟩, hb4⟩
              obtain ⟨v4a, v4c, rfl, _⟩ := hv4.form
              have hq : PartV2 w4 w1.heap.size t.ats.length t.ats j z := HQ.out.1.below hb4
              obtain ⟨x3, hg3⟩ := hq.cell (j * 3 + 2) (by omega)
              have hh3 := hq.frozen (j * 3 + 2)
              have hlt2 := HQ.out.1.lt
              have HR : Hid (PartV (w4.setCell ⟨w1.heap.size, j * 3 + 2, none⟩ (.slice v4a z.val.length v4c)) w1.heap.size t.ats.length t.ats (j + 1) ∧
                  Below w1.heap.size (twoW w1 w.heap.size k t) (w4.setCell ⟨w1.heap.size, j * 3 + 2, none⟩ (.slice v4a z.val.length v4c))) :=
                ⟨hq.done HQ.out.2.1 (hv4.weak (fun b hb _ => Nat.lt_of_lt_of_le hlt2 hb)), (HQ.out.2.2.1.trans (hb4.mono (Nat.le_of_lt hlt2))).setCell (Nat.le_refl _) _⟩
              clear hq hb4 hv4 hg0 hg1 hg2 hh0 hh1 he0' he1' he2' hlt2
              go_wp2
              go_roundw
              case rel => exact ⟨j + 1, by omega, by go_num, HR.out.1, HR.out.2⟩
              case measure => simp [intOf]; omega
            · have hje : j = t.ats.length := by omega
              have ha : AttrsIn (fun b => w.heap.size < b) wr (.slice (some ⟨w1.heap.size, 0, none⟩) t.ats.length t.ats.length) t.ats :=
                (PartV.all (by rw [hje] at hpv; exact hpv) rfl HP.out.2.2.2.2.2 HP.out.2.2.2.1.range).weak (fun b hb _ => by omega)
              have hq : PartW2 wr w.heap.size len l k t := HP.out.1.below (by rw [size_twoW]; exact hbq)
              obtain ⟨x3, hg3⟩ := hq.cell (k * 3 + 2) (by omega)
              have hh3 := hq.frozen (k * 3 + 2)
              have HR : Hid (PartW (wr.setCell ⟨w.heap.size, k * 3 + 2, none⟩ (.slice (some ⟨w1.heap.size, 0, none⟩) t.ats.length t.ats.length)) w.heap.size len l (k + 1) ∧
                  Below w.heap.size w (wr.setCell ⟨w.heap.size, k * 3 + 2, none⟩ (.slice (some ⟨w1.heap.size, 0, none⟩) t.ats.length t.ats.length))) :=
                ⟨hq.done HP.out.2.1 ha, hbw.setCell (Nat.le_refl _) _⟩
              clear hq hpv hbq hbw ha hje
              go_wp2
              go_roundw
              case rel => exact ⟨k + 1, by omega, by go_num, HR.out.1, HR.out.2⟩
              case measure => simp [intOf]; omega
      · have hke : k = len := by omega
        have HR : Hid (TrsIn (fun b => w.heap.size ≤ b) w1 (.slice (some ⟨w.heap.size, 0, none⟩) len len) l) :=
          PartW.all (by rw [hke] at hpart; exact hpart) H.out.2.1.symm H.out.2.2.1 H.out.1.range
        clear hpart hke
        go_wp2
        go_ret
        exact ⟨⟨_, rfl, HR.out⟩, hbel⟩
end Go.Proofs.Qxb6600910a
