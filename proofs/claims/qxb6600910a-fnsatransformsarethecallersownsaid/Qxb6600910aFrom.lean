/-
  zzFromWire.
-/
import Derived.Test.Qxb6600910aWireP
import Derived.Test.Qxb6600910aEqual
import Derived.BigRegion
import Derived.Deep.DrawnRows
namespace Go.Proofs.Qxb6600910a
open Go.RowKit
attribute [local go_sem ↓] Go.wp_at_zero Go.wp_at_succ

theorem Try.info64 : (Try.prog.info? 64).map (fun i => (i.zero, i.size, i.bytes)) = some (some (.agg #[.int .u16 0, .bool false, .slice none 0 0]), 3, 32) := by kernel_rfl

/-- What zzFromWire leaves. -/
def FromRes (w : World) (t : Tr) (e : Ending) (w' : World) : Prop :=
  ∃ u, e = .returned (.agg #[.int .u8 t.ty, .int .u16 t.id, u]) ∧ AttrsIn (fun _ => True) w' u t.ats ∧ Below w.heap.size w w'

set_option maxRecDepth 100000 in
set_option maxHeartbeats 2000000 in
theorem from31_nil {ok : Nat → Prop} (b o : Nat) (t : Tr) (uc : Nat) (w : World) (c0 : w.cell? ⟨b, o, none⟩ = some (.int .u8 t.ty)) (c1 : w.cell? ⟨b, o + 1, none⟩ = some (.int .u16 t.id)) (c2 : w.cell? ⟨b, o + 2, none⟩ = some (.slice none t.ats.length uc))
    (hu : AttrsIn ok w (.slice none t.ats.length uc) t.ats) :
    Calls Try.prog 31 #[.pointer (some ⟨b, o, none⟩)] w (FromRes w t) := by
  have c0a : ∀ x, (w.alloc x).cell? ⟨b, o, none⟩ = some (.int .u8 t.ty) := fun x => keeps_alloc (fun _ => True) _ _ _ _ trivial c0
  have c1a : ∀ x, (w.alloc x).cell? ⟨b, o + 1, none⟩ = some (.int .u16 t.id) := fun x => keeps_alloc (fun _ => True) _ _ _ _ trivial c1
  have c2b : ∀ x y, ((w.alloc x).alloc y).cell? ⟨b, o + 2, none⟩ = some (.slice none t.ats.length uc) := fun x y => keeps_alloc (fun _ => True) _ _ _ _ trivial (keeps_alloc (fun _ => True) _ _ _ _ trivial c2)
  have c0b : ∀ x y, ((w.alloc x).alloc y).cell? ⟨b, o, none⟩ = some (.int .u8 t.ty) := fun x y => keeps_alloc (fun _ => True) _ _ _ _ trivial (keeps_alloc (fun _ => True) _ _ _ _ trivial c0)
  have c1b : ∀ x y, ((w.alloc x).alloc y).cell? ⟨b, o + 1, none⟩ = some (.int .u16 t.id) := fun x y => keeps_alloc (fun _ => True) _ _ _ _ trivial (keeps_alloc (fun _ => True) _ _ _ _ trivial c1)
  have hnil2 := fun w a n c => run_neq_slice_nil_any (P := Try.prog) w 59 66 a n c 0 0 Try.underlying59
  go_enter Try.func31, Try.ntmps31
  go_wp2
  go_region
  all_goals go_wp2
  exact bodyPost_ret (v := .agg #[.int .u8 t.ty, .int .u16 t.id, .slice none 0 0]) (by simp [results, Try.results31, go_sem]) rfl ⟨_, rfl, .inl ⟨rfl, hu.nil⟩, (((Below.refl _ _).alloc (Nat.le_refl _) _).alloc (by simp) _).drew⟩

/-- Block M is the row of the attributes that zzFromWire builds; the first k are done: their values lie below N. -/
def PartF (N : Nat) (w : World) (M m : Nat) (l : List Attr) (k : Nat) : Prop :=
  ∃ f, w.rowIs M 64 (m * 3) f ∧ ∀ i a, i < k → l[i]? = some a → f (i * 3) = .int .u16 a.ty ∧ f (i * 3 + 1) = .bool a.tv ∧ BytesIn (fun b => b < N) w (f (i * 3 + 2)) a.val

theorem PartF.start {N : Nat} {w : World} {M m : Nat} {l : List Attr} {f : Nat → Value} (h : w.rowIs M 64 (m * 3) f) : PartF N w M m l 0 := ⟨f, h, fun i a hi => by omega⟩
theorem PartF.cell {N : Nat} {w : World} {M m : Nat} {l : List Attr} {k : Nat} (h : PartF N w M m l k) (j : Nat) (hj : j < m * 3) : ∃ v, w.cell? ⟨M, j, none⟩ = some v := by
  obtain ⟨f, hr, _⟩ := h; exact ⟨_, hr.cell hj⟩
theorem PartF.frozen {N : Nat} {w : World} {M m : Nat} {l : List Attr} {k : Nat} (h : PartF N w M m l k) (j : Nat) : w.frozen? ⟨M, j, none⟩ = false := by
  obtain ⟨f, hr, _⟩ := h; exact hr.frozen j

/-- The world behind the store of a whole attribute. -/
def stA (w : World) (M k : Nat) (x : Attr) (u : Value) : World := ((w.setCell ⟨M, k * 3, none⟩ (.int .u16 x.ty)).setCell ⟨M, k * 3 + 1, none⟩ (.bool x.tv)).setCell ⟨M, k * 3 + 2, none⟩ u

theorem PartF.next {N : Nat} {w : World} {M m : Nat} {l : List Attr} {k : Nat} {x : Attr} {u : Value} (h : PartF N w M m l k) (hx : l[k]? = some x) (hu : BytesIn (fun b => b < N) w u x.val) (hM : N ≤ M) : PartF N (stA w M k x u) M m l (k + 1) := by
  obtain ⟨f, hr, hd⟩ := h
  have kk : Keeps (fun b => b < N) w (stA w M k x u) := ((keeps_setCell _ _ _ _ (by simp; omega)).trans (keeps_setCell _ _ _ _ (by simp; omega))).trans (keeps_setCell _ _ _ _ (by simp; omega))
  refine ⟨_, ((hr.set (k * 3) _).set (k * 3 + 1) _).set (k * 3 + 2) _, fun i a hi ha => ?_⟩
  by_cases e : i = k
  · subst e
    rw [hx] at ha; injection ha with ha; subst ha
    refine ⟨?_, ?_, ?_⟩
    · rw [if_neg (by omega), if_neg (by omega), if_pos rfl]
    · rw [if_neg (by omega), if_pos rfl]
    · rw [if_pos rfl]; exact hu.keep kk
  · obtain ⟨h0, h1, h2⟩ := hd i a (by omega) ha
    refine ⟨?_, ?_, ?_⟩
    · rw [if_neg (by omega), if_neg (by omega), if_neg (by omega)]; exact h0
    · rw [if_neg (by omega), if_neg (by omega), if_neg (by omega)]; exact h1
    · rw [if_neg (by omega), if_neg (by omega), if_neg (by omega)]; exact h2.keep kk

theorem PartF.drew {N : Nat} {w : World} {M m : Nat} {l : List Attr} {k : Nat} (h : PartF N w M m l k) : PartF N w.drew M m l k := by
  obtain ⟨f, hr, hd⟩ := h
  exact ⟨f, hr.drew, fun i a hi ha => ⟨(hd i a hi ha).1, (hd i a hi ha).2.1, (hd i a hi ha).2.2.keep (fun _ _ _ h => h)⟩⟩

theorem PartF.all {N : Nat} {w : World} {M m : Nat} {l : List Attr} (h : PartF N w M m l m) (hm : l.length = m) (h63 : m ≤ maxLen) (hr : ∀ (i : Nat) (a : Attr), l[i]? = some a → 0 ≤ a.ty ∧ a.ty ≤ 65535) :
    AttrsIn (fun b => b = M ∨ b < N) w (.slice (some ⟨M, 0, none⟩) m m) l := by
  obtain ⟨f, hrow, hd⟩ := h
  refine .inr ⟨M, 0, none, m, by rw [hm], by omega, h63, fun i a ha => ?_⟩
  have hlt := (List.getElem?_eq_some_iff.1 ha).1
  obtain ⟨h0, h1, h2⟩ := hd i a (by omega) ha
  refine ⟨rfl, .inl rfl, ?_, ?_, (hr i a ha).1, (hr i a ha).2, f (i * 3 + 2), ?_, h2.weak (fun _ hb _ => .inr hb)⟩
  · rw [Nat.zero_add, hrow.cell (by omega), h0]
  · rw [Nat.zero_add, hrow.cell (by omega), h1]
  · rw [Nat.zero_add, hrow.cell (by omega)]

/-- The world when the loop begins: the result's box, z's box, the new row. -/
def w3F (w : World) (t : Tr) (m : Nat) : World :=
  (((w.alloc (.cells #[.int .u8 0, .int .u16 0, .slice none 0 0] 55)).alloc (.cells #[.int .u8 t.ty, .int .u16 t.id, .slice (some ⟨w.heap.size + 1 + 1, 0, none⟩) m m] 55)).alloc (.cells (madeCells #[.int .u16 0, .bool false, .slice none 0 0] (m * 3)) 64)).drew

theorem w3F_size (w : World) (t : Tr) (m : Nat) : (w3F w t m).heap.size = w.heap.size + 1 + 1 + 1 := by simp [w3F]

/-- What is known of the two boxes while the loop is at work. -/
structure BoxF (w wr : World) (t : Tr) (m : Nat) : Prop where
  z0 : wr.cell? ⟨w.heap.size + 1, 0, none⟩ = some (.int .u8 t.ty)
  z1 : wr.cell? ⟨w.heap.size + 1, 1, none⟩ = some (.int .u16 t.id)
  z2 : wr.cell? ⟨w.heap.size + 1, 2, none⟩ = some (.slice (some ⟨w.heap.size + 1 + 1, 0, none⟩) m m)
  r0 : wr.cell? ⟨w.heap.size, 0, none⟩ = some (.int .u8 0)
  r1 : wr.cell? ⟨w.heap.size, 1, none⟩ = some (.int .u16 0)
  r2 : wr.cell? ⟨w.heap.size, 2, none⟩ = some (.slice none 0 0)
  f0 : wr.frozen? ⟨w.heap.size, 0, none⟩ = false
  f1 : wr.frozen? ⟨w.heap.size, 1, none⟩ = false
  f2 : wr.frozen? ⟨w.heap.size, 2, none⟩ = false

theorem w3F_z (w : World) (t : Tr) (m : Nat) : (w3F w t m).heap[w.heap.size + 1]? = some (.cells #[.int .u8 t.ty, .int .u16 t.id, .slice (some ⟨w.heap.size + 1 + 1, 0, none⟩) m m] 55) := by
  unfold w3F
  show ((_ : World).alloc _).heap[_]? = _
  rw [Below.heap_alloc _ _ _ (by simp)]
  have : w.heap.size + 1 = (w.alloc (.cells #[.int .u8 0, .int .u16 0, .slice none 0 0] 55)).heap.size := by simp
  rw [this]
  exact heap_alloc_new _ _
theorem w3F_r (w : World) (t : Tr) (m : Nat) : (w3F w t m).heap[w.heap.size]? = some (.cells #[.int .u8 0, .int .u16 0, .slice none 0 0] 55) := by
  unfold w3F
  show ((_ : World).alloc _).heap[_]? = _
  rw [Below.heap_alloc _ _ _ (by simp; omega), Below.heap_alloc _ _ _ (by simp)]
  exact heap_alloc_new _ _

theorem boxF_of {w wr : World} {t : Tr} {m : Nat} (h : Below (w.heap.size + 1 + 1) (w3F w t m) wr) : BoxF w wr t m := by
  have hz := (h.block (w.heap.size + 1) (by omega)).trans (w3F_z w t m)
  have hr := (h.block w.heap.size (by omega)).trans (w3F_r w t m)
  constructor <;> first | (rw [cell_of_row wr _ _ _ _ _ hz]; rfl) | (rw [cell_of_row wr _ _ _ _ _ hr]; rfl) | (simp [World.frozen?, hr])

theorem w3F_below (w : World) (t : Tr) (m : Nat) : Below w.heap.size w (w3F w t m) := ((((Below.refl _ _).alloc (Nat.le_refl _) _).alloc (by simp) _).alloc (by simp; omega) _).drew

theorem w3F_row (w : World) (t : Tr) (m : Nat) : (w3F w t m).rowIs (w.heap.size + 1 + 1) 64 (m * 3) (zc (.int .u16 0) (.bool false) (.slice none 0 0)) := by
  have := rowIs_made3 ((w.alloc (.cells #[.int .u8 0, .int .u16 0, .slice none 0 0] 55)).alloc (.cells #[.int .u8 t.ty, .int .u16 t.id, .slice (some ⟨w.heap.size + 1 + 1, 0, none⟩) m m] 55)) (.int .u16 0) (.bool false) (.slice none 0 0) m 64
  simp only [World.size_alloc] at this
  exact this.drew

set_option maxRecDepth 100000 in
set_option maxHeartbeats 2000000 in
theorem from31_some {ok : Nat → Prop} (b o : Nat) (t : Tr) (y : Addr) (uc : Nat) (w : World) (c0 : w.cell? ⟨b, o, none⟩ = some (.int .u8 t.ty)) (c1 : w.cell? ⟨b, o + 1, none⟩ = some (.int .u16 t.id)) (c2 : w.cell? ⟨b, o + 2, none⟩ = some (.slice (some y) t.ats.length uc))
    (hu : AttrsIn ok w (.slice (some y) t.ats.length uc) t.ats) (hsm : t.ats.length ≤ 1048576) :
    Calls Try.prog 31 #[.pointer (some ⟨b, o, none⟩)] w (FromRes w t) := by
  have c0a : ∀ x, (w.alloc x).cell? ⟨b, o, none⟩ = some (.int .u8 t.ty) := fun x => keeps_alloc (fun _ => True) _ _ _ _ trivial c0
  have c1a : ∀ x, (w.alloc x).cell? ⟨b, o + 1, none⟩ = some (.int .u16 t.id) := fun x => keeps_alloc (fun _ => True) _ _ _ _ trivial c1
  have c2b : ∀ x y', ((w.alloc x).alloc y').cell? ⟨b, o + 2, none⟩ = some (.slice (some y) t.ats.length uc) := fun x y => keeps_alloc (fun _ => True) _ _ _ _ trivial (keeps_alloc (fun _ => True) _ _ _ _ trivial c2)
  have c0b : ∀ x y, ((w.alloc x).alloc y).cell? ⟨b, o, none⟩ = some (.int .u8 t.ty) := fun x y => keeps_alloc (fun _ => True) _ _ _ _ trivial (keeps_alloc (fun _ => True) _ _ _ _ trivial c0)
  have c1b : ∀ x y, ((w.alloc x).alloc y).cell? ⟨b, o + 1, none⟩ = some (.int .u16 t.id) := fun x y => keeps_alloc (fun _ => True) _ _ _ _ trivial (keeps_alloc (fun _ => True) _ _ _ _ trivial c1)
  have hnil2 := fun w a n c => run_neq_slice_nil_any (P := Try.prog) w 59 66 a n c 0 0 Try.underlying59
  have hmk := run_make_row3 (P := Try.prog) 53 64 (.int .u16 0) (.bool false) (.slice none 0 0) 32 Try.underlying53 Try.info64 .i64 .i64 t.ats.length (by omega) (by omega)
  go_enter Try.func31, Try.ntmps31
  go_wp2
  go_region
  all_goals go_wp2
  have HU : Hid (AttrsIn (fun b => b < w.heap.size) w (.slice (some y) t.ats.length uc) t.ats) := hu.weak (fun b _ hb => hb)
  clear hu c0a c1a c2b c0b c1b hmk hnil2 c0 c1
  go_loopw [4] (fun i wr => ∃ k : Nat, k ≤ t.ats.length ∧ i = .int .i64 k ∧ PartF w.heap.size wr (w.heap.size + 1 + 1) t.ats.length t.ats k ∧ Below (w.heap.size + 1 + 1) (w3F w t t.ats.length) wr) (fun i _ => t.ats.length - (intOf i).toNat)
  case atStart => exact ⟨0, Nat.zero_le _, rfl, PartF.start (w3F_row w t t.ats.length), Below.refl _ _⟩
  case round =>
    obtain ⟨k, hk, rfl, hpart, hbel⟩ := hrel
    have hbw : Below w.heap.size w wr := (w3F_below w t t.ats.length).trans (hbel.mono (by omega))
    have hc2 : wr.cell? ⟨b, o + 2, none⟩ = some (.slice (some y) t.ats.length uc) := by rw [hbw.cell (by exact cell_lt c2)]; exact c2
    have hbox := boxF_of hbel
    by_cases hlt : k < t.ats.length
    · obtain ⟨b2, o2, x, u, hy, hx, hb2, e0, e1, e2, hv, _⟩ := HU.out.at hlt
      injection hy with hy; subst hy
      have e0' : wr.cell? ⟨b2, o2 + k * 3, none⟩ = some (.int .u16 x.ty) := by rw [hbw.cell (by exact cell_lt e0)]; exact e0
      have e1' : wr.cell? ⟨b2, o2 + k * 3 + 1, none⟩ = some (.bool x.tv) := by rw [hbw.cell (by exact cell_lt e1)]; exact e1
      have e2' : wr.cell? ⟨b2, o2 + k * 3 + 2, none⟩ = some u := by rw [hbw.cell (by exact cell_lt e2)]; exact e2
      have hz2 := hbox.z2
      obtain ⟨x0, g0⟩ := hpart.cell (k * 3) (by omega)
      obtain ⟨x1, g1⟩ := hpart.cell (k * 3 + 1) (by omega)
      obtain ⟨x2, g2⟩ := hpart.cell (k * 3 + 2) (by omega)
      have h0 := hpart.frozen (k * 3)
      have h1 := hpart.frozen (k * 3 + 1)
      have h2 := hpart.frozen (k * 3 + 2)
      obtain ⟨va, vc, rfl, _⟩ := hv.form
      have HR : Hid (PartF w.heap.size (stA wr (w.heap.size + 1 + 1) k x (.slice va x.val.length vc)).drew (w.heap.size + 1 + 1) t.ats.length t.ats (k + 1) ∧ Below (w.heap.size + 1 + 1) (w3F w t t.ats.length) (stA wr (w.heap.size + 1 + 1) k x (.slice va x.val.length vc)).drew) :=
        ⟨(hpart.next hx (hv.keep (keeps_of_below_lt hbw (fun b hb => hb))) (by omega)).drew, (((hbel.setCell (Nat.le_refl _) _).setCell (Nat.le_refl _) _).setCell (Nat.le_refl _) _).drew⟩
      have hki : (k : Int) < (t.ats.length : Int) := by omega
      clear hbox hpart hbel hbw e0 e1 e2 hv hx hb2 c2
      go_wp2
      go_region
      all_goals go_wp2
      go_roundw
      case rel => exact ⟨k + 1, by omega, by go_num, HR.out.1, HR.out.2⟩
      case measure => simp [intOf]; omega
    · have ha : AttrsIn (fun b => b = w.heap.size + 1 + 1 ∨ b < w.heap.size) wr (.slice (some ⟨w.heap.size + 1 + 1, 0, none⟩) t.ats.length t.ats.length) t.ats := by
        have hke : k = t.ats.length := by omega
        rw [hke] at hpart
        exact hpart.all rfl (by unfold maxLen; omega) HU.out.range
      have HA : Hid (∀ x y z, AttrsIn (fun _ => True) (((wr.setCell ⟨w.heap.size, 0, none⟩ x).setCell ⟨w.heap.size, 1, none⟩ y).setCell ⟨w.heap.size, 2, none⟩ z) (.slice (some ⟨w.heap.size + 1 + 1, 0, none⟩) t.ats.length t.ats.length) t.ats ∧
          Below w.heap.size w (((wr.setCell ⟨w.heap.size, 0, none⟩ x).setCell ⟨w.heap.size, 1, none⟩ y).setCell ⟨w.heap.size, 2, none⟩ z)) := fun x y z =>
        ⟨(ha.keep (((keeps_setCell _ _ _ _ (by simp; omega)).trans (keeps_setCell _ _ _ _ (by simp; omega))).trans (keeps_setCell _ _ _ _ (by simp; omega)))).weak (fun _ _ _ => trivial),
          ((hbw.setCell (Nat.le_refl _) _).setCell (Nat.le_refl _) _).setCell (Nat.le_refl _) _⟩
      obtain ⟨z0, z1, z2, r0, r1, r2, f0, f1, f2⟩ := hbox
      clear hpart c2 ha hbel hbw
      go_wp2
      exact bodyPost_ret (v := .agg #[.int .u8 t.ty, .int .u16 t.id, .slice (some ⟨w.heap.size + 1 + 1, 0, none⟩) t.ats.length t.ats.length]) (by simp [results, Try.results31, go_sem, r0, r1, r2]) rfl ⟨_, rfl, (HA.out _ _ _).1, (HA.out _ _ _).2⟩

theorem from31 {ok : Nat → Prop} (b o : Nat) (t : Tr) (w : World) (h : TrAt ok w b o t) (hs : t.ats.length ≤ 1048576) : Calls Try.prog 31 #[.pointer (some ⟨b, o, none⟩)] w (FromRes w t) := by
  obtain ⟨u, c0, c1, c2, hu⟩ := h
  obtain ⟨ua, uc, rfl, _⟩ := hu.form
  cases ua with
  | none => exact from31_nil b o t uc w c0 c1 c2 hu
  | some y => exact from31_some b o t y uc w c0 c1 c2 hu hs
end Go.Proofs.Qxb6600910a
