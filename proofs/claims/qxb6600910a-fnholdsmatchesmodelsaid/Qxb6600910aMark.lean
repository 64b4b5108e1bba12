/-
  zzHoldsModel.
-/
import Derived.Test.Qxb6600910aSort
import Derived.Test.Qxb6600910aFind
import Derived.Test.Qxb6600910aKeyLaw
namespace Go.Proofs.Qxb6600910a
open Go.RowKit

def row0 : Array Value := Array.replicate 256 (.bool false)

theorem zero67 (w : World) : Sem.run Try.prog (zeroValue 67) w = .ok (.agg row0) w := by kernel_rfl

def MarkAt (N : Nat) (wr : World) (m : List Tr) (k : Nat) : Prop := wr.rowIs N 67 256 (fun j => .bool ((m.take k).any (fun x => x.ty == (j : Int))))

theorem MarkAt.start (w : World) (m : List Tr) : MarkAt w.heap.size (w.alloc (.cells row0 67)) m 0 :=
  have h := World.rowIs_alloc w row0 67 (fun _ => .bool false) (fun i hi => by
    have : i < 256 := by simpa [row0] using hi
    simp [row0, this])
  have h2 : row0.size = 256 := by simp [row0]
  by rw [h2] at h; exact h.congr (fun i _ => by simp)

theorem MarkAt.next {N : Nat} {wr : World} {m : List Tr} {k : Nat} {t : Tr} {q : Nat} (h : MarkAt N wr m k) (ht : m[k]? = some t) (hq : t.ty = q) : MarkAt N (wr.setCell ⟨N, q, none⟩ (.bool true)) m (k + 1) := by
  refine (World.rowIs.set h q (.bool true)).congr fun j hj => ?_
  rw [List.take_add_one, ht, List.any_append]
  by_cases e : j = q
  · subst e; simp [hq]
  · have : ((q : Int) == (j : Int)) = false := by simp; omega
    simp [e, hq, this]

theorem MarkAt.cell {N : Nat} {wr : World} {m : List Tr} {k : Nat} (h : MarkAt N wr m k) {q : Nat} (hq : q < 256) : ∃ c, wr.cell? ⟨N, q, none⟩ = some (.bool c) ∧ c = (m.take k).any (fun x => x.ty == (q : Int)) :=
  ⟨_, World.rowIs.cell h hq, rfl⟩

def Mod1 (l m : List Tr) (k : Nat) : Prop := (l.take k).all (fun t => m.any (fun x => x.ty == t.ty)) = true
def Mod2 (l m : List Tr) (k : Nat) : Prop := (m.take k).all (fun x => (l.map keyOf).contains (keyOf x)) = true

theorem Mod1.next {l m : List Tr} {k : Nat} {t : Tr} (h : Mod1 l m k) (ht : l[k]? = some t) (hc : m.any (fun x => x.ty == t.ty) = true) : Mod1 l m (k + 1) := by
  unfold Mod1 at *; rw [List.take_add_one, ht, List.all_append, h]; simpa using hc
theorem Mod2.next {l m : List Tr} {k : Nat} {t : Tr} (h : Mod2 l m k) (ht : m[k]? = some t) (hc : (l.map keyOf).contains (keyOf t) = true) : Mod2 l m (k + 1) := by
  unfold Mod2 at *; rw [List.take_add_one, ht, List.all_append, h]; simpa using hc
theorem modelP_no1 {l m : List Tr} {k : Nat} {t : Tr} (ht : l[k]? = some t) (hc : m.any (fun x => x.ty == t.ty) = false) : modelP l m = false := by
  unfold modelP
  have : l.all (fun t => m.any (fun x => x.ty == t.ty)) = false := by
    rw [List.all_eq_false]; exact ⟨t, List.mem_of_getElem? ht, by simp [hc]⟩
  rw [this]; rfl
theorem modelP_no2 {l m : List Tr} {k : Nat} {t : Tr} (ht : m[k]? = some t) (hc : (l.map keyOf).contains (keyOf t) = false) : modelP l m = false := by
  unfold modelP
  have : m.all (fun x => (l.map keyOf).contains (keyOf x)) = false := by
    rw [List.all_eq_false]; exact ⟨t, List.mem_of_getElem? ht, by rw [hc]; simp⟩
  rw [this]; simp
theorem modelP_yes {l m : List Tr} (h : Mod1 l m l.length) (h' : Mod2 l m m.length) : modelP l m = true := by
  unfold Mod1 at h; unfold Mod2 at h'
  rw [List.take_length] at h h'
  unfold modelP; rw [h, h']; rfl

theorem TrsIn.ranges {ok : Nat → Prop} {w : World} {a : Option Addr} {len cap : Nat} {l : List Tr} (h : TrsIn ok w (.slice a len cap) l) (i : Nat) (t : Tr) (ht : l[i]? = some t) : 0 ≤ t.ty ∧ t.ty ≤ 255 ∧ 0 ≤ t.id ∧ t.id ≤ 65535 := by
  have hl := h.len.1
  obtain ⟨hi, _⟩ := List.getElem?_eq_some_iff.1 ht
  obtain ⟨b, o, x, u, _, hx, _, _, _, _, _, r⟩ := h.at (i := i) (by omega)
  rw [ht] at hx
  injection hx with hx
  subst hx; exact r

set_option maxRecDepth 100000 in
set_option maxHeartbeats 4000000 in
theorem model14 {ok ok' : Nat → Prop} (v v' : Value) (l m : List Tr) (w : World) (h : TrsIn ok w v l) (h' : TrsIn ok' w v' m) (hs : Small l) (hs' : Small m) :
    Calls Try.prog 14 #[v, v'] w fun e w' => e = .returned (.bool (modelP l m)) ∧ Below w.heap.size w w' := by
  have H : Hid (TrsIn (fun b => b < w.heap.size) w v l ∧ TrsIn (fun b => b < w.heap.size) w v' m ∧ Small l ∧ Small m) := ⟨h.weak (fun b _ hb => hb), h'.weak (fun b _ hb => hb), hs, hs'⟩
  have hll := hs.1
  have hml := hs'.1
  obtain ⟨va, vc, rfl, _⟩ := h.form
  obtain ⟨va', vc', rfl, _⟩ := h'.form
  clear h h' hs hs'
  have hz := zero67
  go_enter Try.func14, Try.ntmps14
  go_wp2
  clear hz
  go_loopw [6] (fun t wr => ∃ k : Nat, k ≤ m.length ∧ t = .int .i64 k ∧ MarkAt w.heap.size wr m k ∧ Below w.heap.size w wr) (fun t _ => m.length - (intOf t).toNat)
  case atStart => exact ⟨0, Nat.zero_le _, rfl, MarkAt.start _ _, (Below.refl _ _).alloc (Nat.le_refl _) _⟩
  case round =>
    obtain ⟨k, hk, rfl, hma, hbel⟩ := hrel
    by_cases hlt : k < m.length
    · obtain ⟨b, o, t, u, rfl, ht, _, c0, _, _, _, r0, r1, _⟩ := H.out.2.1.at hlt
      obtain ⟨q, hq⟩ : ∃ q : Nat, t.ty = q := ⟨t.ty.toNat, by omega⟩
      have c0' : wr.cell? ⟨b, o + k * 3, none⟩ = some (.int .u8 q) := by rw [hbel.cell (by exact cell_lt c0), ← hq]; exact c0
      have hq' : q < 256 := by omega
      obtain ⟨c, hc, _⟩ := hma.cell hq'
      have hf := World.rowIs.frozen hma q
      have R : Hid (MarkAt w.heap.size (wr.setCell ⟨w.heap.size, q, none⟩ (.bool true)) m (k + 1) ∧ Below w.heap.size w (wr.setCell ⟨w.heap.size, q, none⟩ (.bool true))) := ⟨hma.next ht hq, hbel.setCell (Nat.le_refl _) _⟩
      clear c0 ht hq hma hbel r0 r1
      go_wp2
      go_roundw
      case rel => exact ⟨k + 1, by omega, by go_num, R.out.1, R.out.2⟩
      case measure => simp [intOf]; omega
    · have hke : k = m.length := by omega
      subst hke
      have HM : Hid (MarkAt w.heap.size wr m m.length ∧ Below w.heap.size w wr) := ⟨hma, hbel⟩
      clear hma hbel hk
      rename World => w1
      go_wp2
      go_loopw [7] (fun t wr => ∃ k : Nat, k ≤ l.length ∧ t = .int .i64 k ∧ Mod1 l m k ∧ w1 = wr) (fun t _ => l.length - (intOf t).toNat)
      case atStart => exact ⟨0, Nat.zero_le _, rfl, by simp [Mod1], rfl⟩
      case round =>
        clear hlt
        obtain ⟨k, hk, rfl, hmo, rfl⟩ := hrel
        by_cases hlt : k < l.length
        · obtain ⟨b, o, t, u, rfl, ht, _, c0, _, _, _, r0, r1, _⟩ := H.out.1.at hlt
          obtain ⟨q, hq⟩ : ∃ q : Nat, t.ty = q := ⟨t.ty.toNat, by omega⟩
          have c0' : w1.cell? ⟨b, o + k * 3, none⟩ = some (.int .u8 q) := by rw [HM.out.2.cell (by exact cell_lt c0), ← hq]; exact c0
          have hq' : q < 256 := by omega
          obtain ⟨c, hc, hce⟩ := HM.out.1.cell hq'
          rw [List.take_length, ← hq] at hce
          have HT : Hid (l[k]? = some t ∧ Mod1 l m k) := ⟨ht, hmo⟩
          clear c0 ht hq hmo r0 r1
          cases c with
          | false =>
            have R : Hid (modelP l m = false) := modelP_no1 HT.out.1 hce.symm
            clear hce
            go_wp2
            go_ret
            exact ⟨ret_bool R.out.symm, HM.out.2⟩
          | true =>
            have R : Hid (Mod1 l m (k + 1)) := HT.out.2.next HT.out.1 hce.symm
            clear hce
            go_wp2
            go_roundw
            case rel => exact ⟨k + 1, by omega, by go_num, R.out, by trivial⟩
            case measure => simp [intOf]; omega
        · have hke : k = l.length := by omega
          subst hke
          have HO : Hid (Mod1 l m l.length) := hmo
          clear hmo hk
          go_wp2_with fail
          go_at_call 36
          refine (sort36 _ _ _ l _ (H.out.1.keep (keeps_of_below _ HM.out.2)) H.out.2.2.1 H.out.1.ranges).mono ?_
          rintro e w2 ⟨G, ks, rfl, hka, hso, hsm, hb2⟩
          have HS : Hid (KeysAt w2 G l.length ks ∧ SortedUp ks l.length ∧ SameMem ks (l.map keyOf) ∧ Below w.heap.size w w2) := ⟨hka, hso, hsm, HM.out.2.trans (hb2.mono HM.out.2.size)⟩
          clear hka hso hsm hb2
          go_wp2
          go_loopw [9] (fun t wr => ∃ k : Nat, k ≤ m.length ∧ t = .int .i64 k ∧ Mod2 l m k ∧ Below w2.heap.size w2 wr) (fun t _ => m.length - (intOf t).toNat)
          case atStart => exact ⟨0, Nat.zero_le _, rfl, by simp [Mod2], Below.refl _ _⟩
          case round =>
            clear hlt
            obtain ⟨k, hk, rfl, hmo, hbel⟩ := hrel
            have hbw : Below w.heap.size w wr := HS.out.2.2.2.trans (hbel.mono HS.out.2.2.2.size)
            by_cases hlt : k < m.length
            · obtain ⟨b, o, t, u, rfl, ht, _, c0, c1, c2, hu, _⟩ := H.out.2.1.at hlt
              have c0' : wr.cell? ⟨b, o + k * 3, none⟩ = some (.int .u8 t.ty) := by rw [hbw.cell (by exact cell_lt c0)]; exact c0
              have c1' : wr.cell? ⟨b, o + k * 3 + 1, none⟩ = some (.int .u16 t.id) := by rw [hbw.cell (by exact cell_lt c1)]; exact c1
              have c2' : wr.cell? ⟨b, o + k * 3 + 2, none⟩ = some u := by rw [hbw.cell (by exact cell_lt c2)]; exact c2
              have HT : Hid (m[k]? = some t ∧ AttrsIn (fun b => b < w.heap.size) wr u t.ats ∧ SmallT t ∧ (0 ≤ t.ty ∧ t.ty ≤ 255 ∧ 0 ≤ t.id ∧ t.id ≤ 65535) ∧ Mod2 l m k ∧ Below w2.heap.size w2 wr ∧ Below w.heap.size w wr) := ⟨ht, hu.keep (keeps_of_below_lt hbw (fun b hb => hb)), H.out.2.2.2.2 k t ht, H.out.2.1.ranges k t ht, hmo, hbel, hbw⟩
              obtain ⟨ua, uc, rfl, _⟩ := hu.form
              clear c0 c1 c2 hu ht hmo hbel hbw
              go_wp2_with fail
              go_at_call 38
              refine (key38 t _ wr HT.out.2.1 HT.out.2.2.1 HT.out.2.2.2.1).mono ?_
              rintro e w3 ⟨⟨v, rfl, hv⟩, hb3⟩
              have HV : Hid (BytesIn (fun b => wr.heap.size ≤ b) w3 v (keyOf t) ∧ Below w2.heap.size w2 w3 ∧ Below w.heap.size w w3) := ⟨hv, HT.out.2.2.2.2.2.1.trans (hb3.mono HT.out.2.2.2.2.2.1.size), HT.out.2.2.2.2.2.2.trans (hb3.mono HT.out.2.2.2.2.2.2.size)⟩
              obtain ⟨va, vc, hvf, _⟩ := hv.form
              subst hvf
              clear hv hb3
              go_wp2_with fail
              go_at_call 37
              refine (find37 G l.length ks _ (keyOf t) w3 (HS.out.1.below HV.out.2.1) HS.out.2.1 HV.out.1 hll).mono ?_
              rintro e w4 ⟨rfl, hb4⟩
              have HB : Hid (Below w2.heap.size w2 w4 ∧ Below w.heap.size w w4) := ⟨HV.out.2.1.trans (hb4.mono HV.out.2.1.size), HV.out.2.2.trans (hb4.mono HV.out.2.2.size)⟩
              clear hb4 c0' c1' c2'
              have hco := HS.out.2.2.1.contains (keyOf t)
              cases hcc : ks.contains (keyOf t) with
              | false =>
                rw [hcc] at hco
                have R : Hid (modelP l m = false) := modelP_no2 HT.out.1 hco.symm
                clear hco
                go_wp2
                go_ret
                exact ⟨ret_bool R.out.symm, HB.out.2⟩
              | true =>
                rw [hcc] at hco
                have R : Hid (Mod2 l m (k + 1)) := HT.out.2.2.2.2.1.next HT.out.1 hco.symm
                clear hco
                go_wp2
                go_roundw
                case rel => exact ⟨k + 1, by omega, by go_num, R.out, HB.out.1⟩
                case measure => simp [intOf]; omega
            · have hke : k = m.length := by omega
              have R : Hid (modelP l m = true) := modelP_yes HO.out (hke ▸ hmo)
              have HB : Hid (Below w.heap.size w wr) := hbw
              clear hmo hbel hbw hke
              go_wp2
              go_ret
              exact ⟨ret_bool R.out.symm, HB.out⟩
end Go.Proofs.Qxb6600910a
