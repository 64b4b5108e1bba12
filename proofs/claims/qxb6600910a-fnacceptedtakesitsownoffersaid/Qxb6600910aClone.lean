/-
  zzCloneBytes: a fresh copy of the octets.
-/
import Derived.Test.Qxb6600910aBase
import Derived.WalkSpells
import Derived.Deep.OwnRows
namespace Go.Proofs.Qxb6600910a
open Go.RowKit

theorem Try.info5 : (Try.prog.info? 5).map (fun i => (i.zero, i.size, i.bytes)) = some (some (.int .u8 0), 1, 1) := by kernel_rfl

/-- What a function that builds fresh memory leaves: its value v leads to what is wanted; nothing that was there has turned. -/
def Gives (w : World) (R : World → Value → Prop) (e : Ending) (w' : World) : Prop := (∃ v, e = .returned v ∧ R w' v) ∧ Below w.heap.size w w'

/-- The first k octets of bs, the rest still zero. -/
def cl (bs : List Int) (k : Nat) (j : Nat) : Value := .int .u8 (if j < k then bs.getD j 0 else 0)

theorem cl_zero (bs : List Int) (j : Nat) : cl bs 0 j = .int .u8 0 := by simp [cl]
theorem cl_succ {bs : List Int} {k : Nat} {n : Int} (h : bs[k]? = some n) (j : Nat) : (if j = k then (.int .u8 n : Value) else cl bs k j) = cl bs (k + 1) j := by
  unfold cl
  by_cases e : j = k
  · subst e; simp [h]
  · rw [if_neg e]
    by_cases g : j < k
    · rw [if_pos g, if_pos (by omega)]
    · rw [if_neg g, if_neg (by omega)]

theorem bytesIn_of_row {w : World} {b cap : Nat} {bs : List Int} (hr : w.rowIs b 5 cap (cl bs bs.length)) (hc : bs.length ≤ cap) (hm : cap ≤ maxLen) (h : ∀ (i : Nat) (n : Int), bs[i]? = some n → 0 ≤ n ∧ n ≤ 255) :
    BytesIn (fun c => c = b) w (.slice (some ⟨b, 0, none⟩) bs.length cap) bs := by
  refine .inr ⟨b, 0, none, cap, rfl, hc, hm, fun i n hi => ⟨rfl, rfl, ?_, h i n hi⟩⟩
  have hlt := (List.getElem?_eq_some_iff.1 hi).1
  have := hr.cell (i := i) (by omega)
  rw [Nat.zero_add, this]
  unfold cl
  rw [if_pos hlt, List.getD_eq_getElem?_getD, hi]; rfl

set_option maxHeartbeats 1000000 in
theorem clone26 {ok : Nat → Prop} (a : Option Addr) (len cap : Nat) (bs : List Int) (w : World) (h : BytesIn ok w (.slice a len cap) bs) (hs : len ≤ 1048576) :
    Calls Try.prog 26 #[.slice a len cap] w (Gives w (fun w' v => BytesIn (fun b => w.heap.size ≤ b) w' v bs)) := by
  obtain ⟨hlen, hlc, hcap⟩ := h.len
  have hnil := fun w a n c => Lib.run_eql_slice_nil (P := Try.prog) w 33 5 a n c 0 0 Try.underlying33
  have hmk := run_make_row' (P := Try.prog) 33 5 (.int .u8 0) 1 Try.underlying33 Try.info5 rfl .i64 .i64 len (by omega) (by omega)
  have H : Hid (BytesIn ok w (.slice a len cap) bs ∧ len = bs.length ∧ len ≤ maxLen) := ⟨h, hlen, Nat.le_trans hlc hcap⟩
  clear hlen h hcap hlc
  cases a with
  | none =>
    go_enter Try.func26, Try.ntmps26
    go_wp2
    go_ret
    exact ⟨⟨_, rfl, .inl ⟨rfl, H.out.1.nil⟩⟩, Below.refl _ _⟩
  | some x =>
    go_enter Try.func26, Try.ntmps26
    go_wp2
    go_loopw [4] (fun i wr => ∃ k : Nat, k ≤ len ∧ i = .int .i64 k ∧ wr.rowIs w.heap.size 5 len (cl bs k) ∧ Below w.heap.size w wr) (fun i _ => len - (intOf i).toNat)
    case atStart => exact ⟨0, Nat.zero_le _, rfl, (World.rowIs_made w (.int .u8 0) len 5).congr (fun i _ => (cl_zero bs i).symm), (Below.refl _ _).alloc (Nat.le_refl _) _⟩
    case round =>
      obtain ⟨k, hk, rfl, hrow, hbel⟩ := hrel
      by_cases hlt : k < len
      · obtain ⟨b, o, n, hx, hn, _, hc, hn0, hn1⟩ := H.out.1.at hlt
        injection hx with hx; subst hx
        have hc' : wr.cell? ⟨b, o + k, none⟩ = some (.int .u8 n) := by rw [hbel.cell (by exact cell_lt hc)]; exact hc
        have hd : wr.cell? ⟨w.heap.size, k, none⟩ = some (cl bs k k) := hrow.cell hlt
        have hf : wr.frozen? ⟨w.heap.size, k, none⟩ = false := hrow.frozen k
        have HR : Hid ((wr.setCell ⟨w.heap.size, k, none⟩ (.int .u8 n)).rowIs w.heap.size 5 len (cl bs (k + 1)) ∧ Below w.heap.size w (wr.setCell ⟨w.heap.size, k, none⟩ (.int .u8 n))) :=
          ⟨(hrow.set k _).congr (fun j _ => cl_succ hn j), hbel.setCell (Nat.le_refl _) _⟩
        clear hrow hbel hc hn
        go_wp2
        go_roundw
        case rel => exact ⟨k + 1, by omega, by go_num, HR.out.1, HR.out.2⟩
        case measure => simp [intOf]; omega
      · have HR : Hid (BytesIn (fun b => w.heap.size ≤ b) wr (.slice (some ⟨w.heap.size, 0, none⟩) len len) bs) := by
          have e := H.out.2.1
          have hk' : k = bs.length := by omega
          subst hk'
          have := bytesIn_of_row (cap := len) hrow (by omega) H.out.2.2 H.out.1.range
          rw [← e] at this; exact this.weak (fun b hb _ => by rw [hb]; exact Nat.le_refl _)
        clear hrow
        go_wp2
        go_ret
        exact ⟨⟨_, rfl, HR.out⟩, hbel⟩
end Go.Proofs.Qxb6600910a
