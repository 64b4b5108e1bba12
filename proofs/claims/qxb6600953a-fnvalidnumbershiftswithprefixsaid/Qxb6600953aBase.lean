/-
  Octets in memory; zzCopyBytes, digits.
-/
import Derived.Test.Qxb6600953aProg
import Derived.Test.Qxb6600953aNum
import Derived.WalkKit
import Derived.WalkSpells
import Derived.Deep.OwnRows
namespace Go.Proofs.Qxb6600953a
open Go.RowKit

/-- The slice value v leads, in w, to the octets bs. -/
def BytesAt (w : World) (v : Value) (bs : List Int) : Prop :=
  (v = .slice none 0 0 ∧ bs = []) ∨
  ∃ b o s cap, v = .slice (some ⟨b, o, s⟩) bs.length cap ∧ bs.length ≤ cap ∧ cap ≤ maxLen ∧
    ∀ i n, bs[i]? = some n → s = none ∧ w.cell? ⟨b, o + i, none⟩ = some (.int .u8 n) ∧ 0 ≤ n ∧ n ≤ 255

theorem cell_lt {w : World} {a : Addr} {v : Value} (h : w.cell? a = some v) : a.block < w.heap.size := by
  unfold World.cell? at h
  split at h
  · rename_i heq
    exact (Array.getElem?_eq_some_iff.1 heq).1
  · cases h

theorem BytesAt.keep {w w' : World} {v : Value} {bs : List Int} (k : Below w.heap.size w w') (h : BytesAt w v bs) : BytesAt w' v bs := by
  rcases h with h | ⟨b, o, s, cap, hv, h1, h2, h3⟩
  · exact .inl h
  · refine .inr ⟨b, o, s, cap, hv, h1, h2, fun i n hi => ?_⟩
    obtain ⟨e, c0, r⟩ := h3 i n hi
    exact ⟨e, by rw [k.cell (cell_lt c0)]; exact c0, r⟩

theorem BytesAt.form {w : World} {v : Value} {l : List Int} (h : BytesAt w v l) : ∃ a cap, v = .slice a l.length cap ∧ l.length ≤ cap ∧ cap ≤ maxLen := by
  rcases h with ⟨hv, rfl⟩ | ⟨b, o, s, cap, hv, h1, h2, _⟩
  · exact ⟨none, 0, hv, Nat.le_refl _, Nat.zero_le _⟩
  · exact ⟨_, cap, hv, h1, h2⟩
theorem BytesAt.len {w : World} {a : Option Addr} {len cap : Nat} {l : List Int} (h : BytesAt w (.slice a len cap) l) : len = l.length ∧ len ≤ cap ∧ cap ≤ maxLen := by
  obtain ⟨a', c', e, h1, h2⟩ := h.form
  injection e with e1 e2 e3
  subst e3; subst e2; exact ⟨rfl, h1, h2⟩
theorem BytesAt.at {w : World} {a : Option Addr} {len cap : Nat} {l : List Int} (h : BytesAt w (.slice a len cap) l) {i : Nat} (hi : i < len) :
    ∃ b o n, a = some ⟨b, o, none⟩ ∧ l[i]? = some n ∧ w.cell? ⟨b, o + i, none⟩ = some (.int .u8 n) ∧ 0 ≤ n ∧ n ≤ 255 := by
  rcases h with ⟨hv, rfl⟩ | ⟨b, o, s, c, hv, h1, h2, h3⟩
  · injection hv; omega
  · injection hv with e1 e2 e3
    have hl : l[i]? = some (l[i]'(by omega)) := List.getElem?_eq_getElem (by omega)
    obtain ⟨e, c0⟩ := h3 i _ hl
    exact ⟨b, o, _, by rw [e1, e], hl, c0⟩
theorem BytesAt.nil {w : World} {len cap : Nat} {l : List Int} (h : BytesAt w (.slice none len cap) l) : l = [] := by
  rcases h with ⟨_, h⟩ | ⟨b, o, s, c, h, _⟩
  · exact h
  · cases h
theorem BytesAt.range {w : World} {v : Value} {bs : List Int} (h : BytesAt w v bs) : ∀ (i : Nat) (n : Int), bs[i]? = some n → 0 ≤ n ∧ n ≤ 255 := by
  rcases h with ⟨_, rfl⟩ | ⟨b, o, s, cap, _, _, _, h3⟩
  · intro i n h; simp at h
  · intro i n hi; exact (h3 i n hi).2.2

theorem hide {p : Prop} (h : p) : Hid p := h
theorem unhide {p : Prop} (h : Hid p) : p := h

theorem Try.info5 : (Try.prog.info? 5).map (fun i => (i.zero, i.size, i.bytes)) = some (some (.int .u8 0), 1, 1) := by kernel_rfl

/-- What a function that builds fresh memory leaves. -/
def Gives (w : World) (R : World → Value → Prop) (e : Ending) (w' : World) : Prop := (∃ v, e = .returned v ∧ R w' v) ∧ Below w.heap.size w w'

/-- The first k octets of bs, the rest still zero. -/
def cl (bs : List Int) (k : Nat) (j : Nat) : Value := .int .u8 (if j < k then bs.getD j 0 else 0)

theorem cl_zero (bs : List Int) (j : Nat) : cl bs 0 j = .int .u8 0 := by simp [cl]
theorem cl_succ {bs : List Int} {k : Nat} {n : Int} (h : bs[k]? = some n) (j : Nat) : (if j = k then (.int .u8 n : Value) else cl bs k j) = cl bs (k + 1) j := by
  unfold cl
  by_cases e : j = k
  · subst e; simp [h]
  · rw [if_neg e]
    by_cases g : j < k
    · rw [if_pos g, if_pos (by omega)]
    · rw [if_neg g, if_neg (by omega)]

theorem bytesAt_of_row {w : World} {b cap : Nat} {bs : List Int} (hr : w.rowIs b 5 cap (cl bs bs.length)) (hc : bs.length ≤ cap) (hm : cap ≤ maxLen) (h : ∀ (i : Nat) (n : Int), bs[i]? = some n → 0 ≤ n ∧ n ≤ 255) :
    BytesAt w (.slice (some ⟨b, 0, none⟩) bs.length cap) bs := by
  refine .inr ⟨b, 0, none, cap, rfl, hc, hm, fun i n hi => ⟨rfl, ?_, h i n hi⟩⟩
  have hlt := (List.getElem?_eq_some_iff.1 hi).1
  have := hr.cell (i := i) (by omega)
  rw [Nat.zero_add, this]
  unfold cl
  rw [if_pos hlt, List.getD_eq_getElem?_getD, hi]; rfl

set_option maxHeartbeats 1000000 in
theorem copy13 (a : Option Addr) (len cap : Nat) (bs : List Int) (w : World) (h : BytesAt w (.slice a len cap) bs) (hs : len ≤ 1048576) :
    Calls Try.prog 13 #[.slice a len cap] w (Gives w (fun w' v => BytesAt w' v bs)) := by
  obtain ⟨hlen, hlc, hcap⟩ := h.len
  have hnil := fun w a n c => Lib.run_eql_slice_nil (P := Try.prog) w 26 5 a n c 0 0 Try.underlying26
  have hmk := run_make_row' (P := Try.prog) 26 5 (.int .u8 0) 1 Try.underlying26 Try.info5 rfl .i64 .i64 len (by omega) (by omega)
  have H : Hid (BytesAt w (.slice a len cap) bs ∧ len = bs.length ∧ len ≤ maxLen) := ⟨h, hlen, Nat.le_trans hlc hcap⟩
  clear hlen h hcap hlc
  cases a with
  | none =>
    go_enter Try.func13, Try.ntmps13
    go_wp2
    go_ret
    exact ⟨⟨_, rfl, .inl ⟨rfl, H.out.1.nil⟩⟩, Below.refl _ _⟩
  | some x =>
    go_enter Try.func13, Try.ntmps13
    go_wp2
    go_loopw [4] (fun i wr => ∃ k : Nat, k ≤ len ∧ i = .int .i64 k ∧ wr.rowIs w.heap.size 5 len (cl bs k) ∧ Below w.heap.size w wr) (fun i _ => len - (intOf i).toNat)
    case atStart => exact ⟨0, Nat.zero_le _, rfl, (World.rowIs_made w (.int .u8 0) len 5).congr (fun i _ => (cl_zero bs i).symm), (Below.refl _ _).alloc (Nat.le_refl _) _⟩
    case round =>
      obtain ⟨k, hk, rfl, hrow, hbel⟩ := hrel
      by_cases hlt : k < len
      · obtain ⟨b, o, n, hx, hn, hc, hn0, hn1⟩ := H.out.1.at hlt
        injection hx with hx; subst hx
        have hc' : wr.cell? ⟨b, o + k, none⟩ = some (.int .u8 n) := by rw [hbel.cell (by exact cell_lt hc)]; exact hc
        have hd : wr.cell? ⟨w.heap.size, k, none⟩ = some (cl bs k k) := hrow.cell hlt
        have hf : wr.frozen? ⟨w.heap.size, k, none⟩ = false := hrow.frozen k
        have HR : Hid ((wr.setCell ⟨w.heap.size, k, none⟩ (.int .u8 n)).rowIs w.heap.size 5 len (cl bs (k + 1)) ∧ Below w.heap.size w (wr.setCell ⟨w.heap.size, k, none⟩ (.int .u8 n))) :=
          ⟨(hrow.set k _).congr (fun j _ => cl_succ hn j), hbel.setCell (Nat.le_refl _) _⟩
        clear hrow hbel hc hn
        go_wp2
        go_roundw
        case rel => exact ⟨k + 1, by omega, by go_num, HR.out.1, HR.out.2⟩
        case measure => simp [intOf]; omega
      · have HR : Hid (BytesAt wr (.slice (some ⟨w.heap.size, 0, none⟩) len len) bs) := by
          have e := H.out.2.1
          have hk' : k = bs.length := by omega
          subst hk'
          have := bytesAt_of_row (cap := len) hrow (by omega) H.out.2.2 H.out.1.range
          rw [← e] at this; exact this
        clear hrow
        go_wp2
        go_ret
        exact ⟨⟨_, rfl, HR.out⟩, hbel⟩

/-! ### digits -/

/-- The octets from i to j are digits. -/
def DUp (l : List Int) (i j : Nat) : Prop := dlen (l.drop i) = dlen (l.drop j) + (j - i) ∧ i ≤ j
theorem DUp.zero (l : List Int) (i : Nat) : DUp l i i := ⟨by omega, Nat.le_refl _⟩
theorem DUp.succ {l : List Int} {i j : Nat} {c : Int} (h : DUp l i j) (hc : l[j]? = some c) (hd : 48 ≤ c ∧ c ≤ 57) : DUp l i (j + 1) := by
  obtain ⟨h1, e1⟩ := List.getElem?_eq_some_iff.1 hc
  obtain ⟨h2, h3⟩ := h
  refine ⟨?_, by omega⟩
  have : l.drop j = c :: l.drop (j + 1) := by rw [List.drop_eq_getElem_cons h1, e1]
  rw [h2, this]
  simp only [dlen, if_pos hd]; omega
theorem DUp.stop {l : List Int} {i j : Nat} {c : Int} (h : DUp l i j) (hc : l[j]? = some c) (hd : ¬ (48 ≤ c ∧ c ≤ 57)) : dlen (l.drop i) = j - i := by
  obtain ⟨h1, e1⟩ := List.getElem?_eq_some_iff.1 hc
  have : l.drop j = c :: l.drop (j + 1) := by rw [List.drop_eq_getElem_cons h1, e1]
  have h2 := h.1
  rw [this] at h2
  simp only [dlen, if_neg hd] at h2; omega
theorem DUp.last {l : List Int} {i j : Nat} (h : DUp l i j) (hj : l.length ≤ j) : dlen (l.drop i) = j - i := by
  have h2 := h.1
  rw [List.drop_eq_nil_of_le hj] at h2
  simp only [dlen] at h2; omega

/-- What digits answers. -/
def digR (l : List Int) (i : Nat) : Int := if dlen (l.drop i) = 0 then -1 else (i : Int) + dlen (l.drop i)

theorem ret_int {k : IntKind} {a b : Int} (h : a = b) : Ending.returned (.int k a) = .returned (.int k b) := by rw [h]
theorem ret_bool {a b : Bool} (h : a = b) : Ending.returned (.bool a) = .returned (.bool b) := by rw [h]

set_option maxRecDepth 100000 in
set_option maxHeartbeats 1000000 in
theorem digits32 (a : Option Addr) (len cap : Nat) (l : List Int) (i : Nat) (w : World) (h : BytesAt w (.slice a len cap) l) (hi : i ≤ len) :
    Calls Try.prog 32 #[.slice a len cap, .int .i64 (i : Int)] w fun e w' => e = .returned (.int .i64 (digR l i)) ∧ w = w' := by
  obtain ⟨hlen, hlc, hcap⟩ := h.len
  unfold maxLen at hcap
  have hl63 : len ≤ 9223372036854775807 := by omega
  have H : Hid (BytesAt w (.slice a len cap) l ∧ len = l.length) := ⟨h, hlen⟩
  clear h hlen hlc hcap
  go_enter Try.func32, Try.ntmps32
  go_wp2
  go_loop [5] (fun t => ∃ j : Nat, j ≤ len ∧ t = .int .i64 j ∧ DUp l i j) (fun t => len - (intOf t).toNat)
  case atStart => exact ⟨i, hi, rfl, DUp.zero l i⟩
  case round =>
    obtain ⟨j, hj, rfl, hup⟩ := hrel
    have hij := hup.2
    by_cases hlt : j < len
    · obtain ⟨b, o, c, rfl, hc, c0, _⟩ := H.out.1.at hlt
      by_cases hd : 48 ≤ c ∧ c ≤ 57
      · have R : Hid (DUp l i (j + 1)) := hup.succ hc hd
        obtain ⟨hd1, hd2⟩ := hd
        clear hup hc
        go_wp2
        go_round
        case rel => exact ⟨j + 1, by omega, by go_num, R.out⟩
        case measure => simp [intOf]; omega
      · have R : Hid (dlen (l.drop i) = j - i) := hup.stop hc hd
        clear hup hc
        by_cases he : j = i
        · subst he
          have R2 : Hid (digR l j = -1) := by show digR l j = -1; unfold digR; rw [R.out, if_pos (by omega)]
          clear R
          by_cases hd1 : 48 ≤ c
          · have hd2 : ¬ c ≤ 57 := fun g => hd ⟨hd1, g⟩
            clear hd
            go_wp2
            go_ret
            exact ⟨ret_int R2.out.symm, rfl⟩
          · clear hd
            go_wp2
            go_ret
            exact ⟨ret_int R2.out.symm, rfl⟩
        · have R2 : Hid (digR l i = j) := by show digR l i = j; unfold digR; rw [R.out, if_neg (by omega)]; omega
          have hne : ((j : Int) == (i : Int)) = false := by simp; omega
          clear R he
          by_cases hd1 : 48 ≤ c
          · have hd2 : ¬ c ≤ 57 := fun g => hd ⟨hd1, g⟩
            clear hd
            go_wp2
            go_ret
            exact ⟨ret_int R2.out.symm, rfl⟩
          · clear hd
            go_wp2
            go_ret
            exact ⟨ret_int R2.out.symm, rfl⟩
    · have R : Hid (dlen (l.drop i) = j - i) := hup.last (by have := H.out.2; omega)
      clear hup
      by_cases he : j = i
      · subst he
        have R2 : Hid (digR l j = -1) := by show digR l j = -1; unfold digR; rw [R.out, if_pos (by omega)]
        clear R
        go_wp2
        go_ret
        exact ⟨ret_int R2.out.symm, rfl⟩
      · have R2 : Hid (digR l i = j) := by show digR l i = j; unfold digR; rw [R.out, if_neg (by omega)]; omega
        have hne : ((j : Int) == (i : Int)) = false := by simp; omega
        clear R he
        go_wp2
        go_ret
        exact ⟨ret_int R2.out.symm, rfl⟩
end Go.Proofs.Qxb6600953a
