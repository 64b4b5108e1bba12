/-
  What lies in memory while zzToWire is at work: no walk here.
-/
import Derived.Test.Qxb6600910aClone
namespace Go.Proofs.Qxb6600910a
open Go.RowKit

/-- 'make([]T, n)', T of three cells. -/
theorem run_make_row3 {P : Program} (t e : TypeId) (z0 z1 z2 : Value) (bytes : Nat) (ht : P.underlying t = some (.slice e)) (hinfo : (P.info? e).map (fun i => (i.zero, i.size, i.bytes)) = some (some (.agg #[z0, z1, z2]), 3, bytes))
    (kl kc : IntKind) (n : Nat) (hbytes : bytes * n ≤ 281474976710656) (h63 : n ≤ 9223372036854775807) (w : World) :
    (Instr.makeSlice t (.int kl (n : Int)) (.int kc (n : Int))).run P w = .ok (.slice (some ⟨w.heap.size, 0, none⟩) n n) (w.alloc (.cells (madeCells #[z0, z1, z2] (n * 3)) e)) := by
  obtain ⟨i, hi, hzz⟩ := Option.map_eq_some_iff.1 hinfo
  simp only [Prod.mk.injEq] at hzz
  obtain ⟨hz, hs, hb⟩ := hzz
  have hb' : (i.bytes : Int) * (n : Int) ≤ 281474976710656 := by
    have h : ((i.bytes * n : Nat) : Int) ≤ 281474976710656 := by rw [hb]; omega
    rwa [Int.natCast_mul] at h
  have hr := run_make (P := P) w t e i (.agg #[z0, z1, z2]) ht hi hz kl kc n n (by omega) (Int.le_refl _) hb' (by omega)
  simp only [Int.toNat_natCast, hs] at hr
  exact hr

/-- What such a make lays. -/
def zc (z0 z1 z2 : Value) (i : Nat) : Value := if i % 3 = 0 then z0 else if i % 3 = 1 then z1 else z2

theorem rowIs_made3 (w : World) (z0 z1 z2 : Value) (n : Nat) (t : TypeId) : (w.alloc (.cells (madeCells #[z0, z1, z2] (n * 3)) t)).rowIs w.heap.size t (n * 3) (zc z0 z1 z2) := by
  refine ⟨_, Go.Deep.blk_alloc_new _ _, size_madeCells _ _, fun i hi => ?_⟩
  simp only [madeCells, Array.getElem?_map]
  rw [Array.getElem?_range, if_pos hi]
  simp only [Option.map_some, zc]
  have h3 : i % 3 < 3 := Nat.mod_lt _ (by omega)
  have : (#[z0, z1, z2] : Array Value).size = 3 := rfl
  rw [this]
  rcases (by omega : i % 3 = 0 ∨ i % 3 = 1 ∨ i % 3 = 2) with h | h | h <;> rw [h] <;> rfl

/-! ### the attributes of one transform -/

/-- Block M is the row of the attributes that are being built; the first k are done. -/
def PartV (w : World) (M m : Nat) (l : List Attr) (k : Nat) : Prop :=
  ∃ f, w.rowIs M 66 (m * 3) f ∧ ∀ i a, i < k → l[i]? = some a → f (i * 3) = .int .u16 a.ty ∧ f (i * 3 + 1) = .bool a.tv ∧ BytesIn (fun b => M < b) w (f (i * 3 + 2)) a.val

/-- .. and of the k-th two fields. -/
def PartV2 (w : World) (M m : Nat) (l : List Attr) (k : Nat) (x : Attr) : Prop :=
  ∃ f, w.rowIs M 66 (m * 3) f ∧ (∀ i a, i < k → l[i]? = some a → f (i * 3) = .int .u16 a.ty ∧ f (i * 3 + 1) = .bool a.tv ∧ BytesIn (fun b => M < b) w (f (i * 3 + 2)) a.val) ∧
    f (k * 3) = .int .u16 x.ty ∧ f (k * 3 + 1) = .bool x.tv

theorem PartV.start {w : World} {M m : Nat} {l : List Attr} {f : Nat → Value} (h : w.rowIs M 66 (m * 3) f) : PartV w M m l 0 := ⟨f, h, fun i a hi => by omega⟩

theorem PartV.cell {w : World} {M m : Nat} {l : List Attr} {k : Nat} (h : PartV w M m l k) (j : Nat) (hj : j < m * 3) : ∃ v, w.cell? ⟨M, j, none⟩ = some v := by
  obtain ⟨f, hr, _⟩ := h; exact ⟨_, hr.cell hj⟩
theorem PartV.frozen {w : World} {M m : Nat} {l : List Attr} {k : Nat} (h : PartV w M m l k) (j : Nat) : w.frozen? ⟨M, j, none⟩ = false := by
  obtain ⟨f, hr, _⟩ := h; exact hr.frozen j
theorem PartV.lt {w : World} {M m : Nat} {l : List Attr} {k : Nat} (h : PartV w M m l k) : M < w.heap.size := by
  obtain ⟨f, hr, _⟩ := h; exact hr.lt

theorem PartV2.cell {w : World} {M m : Nat} {l : List Attr} {k : Nat} {x : Attr} (h : PartV2 w M m l k x) (j : Nat) (hj : j < m * 3) : ∃ v, w.cell? ⟨M, j, none⟩ = some v := by
  obtain ⟨f, hr, _⟩ := h; exact ⟨_, hr.cell hj⟩
theorem PartV2.frozen {w : World} {M m : Nat} {l : List Attr} {k : Nat} {x : Attr} (h : PartV2 w M m l k x) (j : Nat) : w.frozen? ⟨M, j, none⟩ = false := by
  obtain ⟨f, hr, _⟩ := h; exact hr.frozen j
theorem PartV2.lt {w : World} {M m : Nat} {l : List Attr} {k : Nat} {x : Attr} (h : PartV2 w M m l k x) : M < w.heap.size := by
  obtain ⟨f, hr, _⟩ := h; exact hr.lt

theorem PartV.two {w : World} {M m : Nat} {l : List Attr} {k : Nat} (h : PartV w M m l k) (x : Attr) :
    PartV2 ((w.setCell ⟨M, k * 3, none⟩ (.int .u16 x.ty)).setCell ⟨M, k * 3 + 1, none⟩ (.bool x.tv)) M m l k x := by
  obtain ⟨f, hr, hd⟩ := h
  refine ⟨_, (hr.set (k * 3) _).set (k * 3 + 1) _, fun i a hi ha => ?_, ?_, ?_⟩
  · obtain ⟨h0, h1, h2⟩ := hd i a hi ha
    refine ⟨?_, ?_, ?_⟩
    · rw [if_neg (by omega), if_neg (by omega)]; exact h0
    · rw [if_neg (by omega), if_neg (by omega)]; exact h1
    · rw [if_neg (by omega), if_neg (by omega)]
      exact (h2.keep (keeps_setCell _ _ _ _ (by simp))).keep (keeps_setCell _ _ _ _ (by simp))
  · rw [if_neg (by omega), if_pos rfl]
  · rw [if_pos rfl]

theorem PartV2.below {w w' : World} {M m : Nat} {l : List Attr} {k : Nat} {x : Attr} (h : PartV2 w M m l k x) (hb : Below w.heap.size w w') : PartV2 w' M m l k x := by
  have hlt := h.lt
  obtain ⟨f, hr, hd, r⟩ := h
  refine ⟨f, hr.of_block (hb.block M hlt), fun i a hi ha => ?_, r⟩
  obtain ⟨h0, h1, h2⟩ := hd i a hi ha
  exact ⟨h0, h1, h2.keep (keeps_of_below _ hb)⟩

theorem PartV2.done {w : World} {M m : Nat} {l : List Attr} {k : Nat} {x : Attr} {v : Value} (h : PartV2 w M m l k x) (hx : l[k]? = some x) (hv : BytesIn (fun b => M < b) w v x.val) :
    PartV (w.setCell ⟨M, k * 3 + 2, none⟩ v) M m l (k + 1) := by
  obtain ⟨f, hr, hd, r0, r1⟩ := h
  refine ⟨_, hr.set (k * 3 + 2) v, fun i a hi ha => ?_⟩
  by_cases e : i = k
  · subst e
    rw [hx] at ha; injection ha with ha; subst ha
    refine ⟨?_, ?_, ?_⟩
    · rw [if_neg (by omega)]; exact r0
    · rw [if_neg (by omega)]; exact r1
    · rw [if_pos rfl]; exact hv.keep (keeps_setCell _ _ _ _ (by simp))
  · obtain ⟨h0, h1, h2⟩ := hd i a (by omega) ha
    refine ⟨?_, ?_, ?_⟩
    · rw [if_neg (by omega)]; exact h0
    · rw [if_neg (by omega)]; exact h1
    · rw [if_neg (by omega)]; exact h2.keep (keeps_setCell _ _ _ _ (by simp))

theorem PartV.all {w : World} {M m : Nat} {l : List Attr} (h : PartV w M m l m) (hm : l.length = m) (h63 : m ≤ maxLen) (hr : ∀ (i : Nat) (a : Attr), l[i]? = some a → 0 ≤ a.ty ∧ a.ty ≤ 65535) :
    AttrsIn (fun b => M ≤ b) w (.slice (some ⟨M, 0, none⟩) m m) l := by
  obtain ⟨f, hrow, hd⟩ := h
  refine .inr ⟨M, 0, none, m, by rw [hm], by omega, h63, fun i a ha => ?_⟩
  have hlt := (List.getElem?_eq_some_iff.1 ha).1
  obtain ⟨h0, h1, h2⟩ := hd i a (by omega) ha
  refine ⟨rfl, Nat.le_refl _, ?_, ?_, (hr i a ha).1, (hr i a ha).2, f (i * 3 + 2), ?_, h2.weak (fun b hb _ => by omega)⟩
  · rw [Nat.zero_add, hrow.cell (by omega), h0]
  · rw [Nat.zero_add, hrow.cell (by omega), h1]
  · rw [Nat.zero_add, hrow.cell (by omega)]

/-! ### the transforms -/

/-- Block N is the row of the transforms that are being built; the first k are done, behind them no attributes are laid. -/
def PartW (w : World) (N n : Nat) (l : List Tr) (k : Nat) : Prop :=
  ∃ f, w.rowIs N 61 (n * 3) f ∧ (∀ i t, i < k → l[i]? = some t → f (i * 3) = .int .u8 t.ty ∧ f (i * 3 + 1) = .int .u16 t.id ∧ AttrsIn (fun b => N < b) w (f (i * 3 + 2)) t.ats) ∧
    ∀ i, k ≤ i → f (i * 3 + 2) = .slice none 0 0

def PartW2 (w : World) (N n : Nat) (l : List Tr) (k : Nat) (x : Tr) : Prop :=
  ∃ f, w.rowIs N 61 (n * 3) f ∧ (∀ i t, i < k → l[i]? = some t → f (i * 3) = .int .u8 t.ty ∧ f (i * 3 + 1) = .int .u16 t.id ∧ AttrsIn (fun b => N < b) w (f (i * 3 + 2)) t.ats) ∧
    (∀ i, k ≤ i → f (i * 3 + 2) = .slice none 0 0) ∧ f (k * 3) = .int .u8 x.ty ∧ f (k * 3 + 1) = .int .u16 x.id

theorem PartW.start (w : World) (n : Nat) (l : List Tr) : PartW (w.alloc (.cells (madeCells #[.int .u8 0, .int .u16 0, .slice none 0 0] (n * 3)) 61)) w.heap.size n l 0 :=
  ⟨_, rowIs_made3 w _ _ _ n 61, fun i a hi => by omega, fun i _ => by unfold zc; rw [if_neg (by omega), if_neg (by omega)]⟩

theorem PartW.cell {w : World} {N n : Nat} {l : List Tr} {k : Nat} (h : PartW w N n l k) (j : Nat) (hj : j < n * 3) : ∃ v, w.cell? ⟨N, j, none⟩ = some v := by
  obtain ⟨f, hr, _⟩ := h; exact ⟨_, hr.cell hj⟩
theorem PartW.frozen {w : World} {N n : Nat} {l : List Tr} {k : Nat} (h : PartW w N n l k) (j : Nat) : w.frozen? ⟨N, j, none⟩ = false := by
  obtain ⟨f, hr, _⟩ := h; exact hr.frozen j
theorem PartW.lt {w : World} {N n : Nat} {l : List Tr} {k : Nat} (h : PartW w N n l k) : N < w.heap.size := by
  obtain ⟨f, hr, _⟩ := h; exact hr.lt
theorem PartW2.cell {w : World} {N n : Nat} {l : List Tr} {k : Nat} {x : Tr} (h : PartW2 w N n l k x) (j : Nat) (hj : j < n * 3) : ∃ v, w.cell? ⟨N, j, none⟩ = some v := by
  obtain ⟨f, hr, _⟩ := h; exact ⟨_, hr.cell hj⟩
theorem PartW2.frozen {w : World} {N n : Nat} {l : List Tr} {k : Nat} {x : Tr} (h : PartW2 w N n l k x) (j : Nat) : w.frozen? ⟨N, j, none⟩ = false := by
  obtain ⟨f, hr, _⟩ := h; exact hr.frozen j
theorem PartW2.lt {w : World} {N n : Nat} {l : List Tr} {k : Nat} {x : Tr} (h : PartW2 w N n l k x) : N < w.heap.size := by
  obtain ⟨f, hr, _⟩ := h; exact hr.lt

theorem PartW.two {w : World} {N n : Nat} {l : List Tr} {k : Nat} (h : PartW w N n l k) (x : Tr) :
    PartW2 ((w.setCell ⟨N, k * 3, none⟩ (.int .u8 x.ty)).setCell ⟨N, k * 3 + 1, none⟩ (.int .u16 x.id)) N n l k x := by
  obtain ⟨f, hr, hd, hz⟩ := h
  refine ⟨_, (hr.set (k * 3) _).set (k * 3 + 1) _, fun i a hi ha => ?_, fun i hi => ?_, ?_, ?_⟩
  · obtain ⟨h0, h1, h2⟩ := hd i a hi ha
    refine ⟨?_, ?_, ?_⟩
    · rw [if_neg (by omega), if_neg (by omega)]; exact h0
    · rw [if_neg (by omega), if_neg (by omega)]; exact h1
    · rw [if_neg (by omega), if_neg (by omega)]
      exact (h2.keep (keeps_setCell _ _ _ _ (by simp))).keep (keeps_setCell _ _ _ _ (by simp))
  · rw [if_neg (by omega), if_neg (by omega)]; exact hz i hi
  · rw [if_neg (by omega), if_pos rfl]
  · rw [if_pos rfl]

theorem PartW2.below {w w' : World} {N n : Nat} {l : List Tr} {k : Nat} {x : Tr} (h : PartW2 w N n l k x) (hb : Below w.heap.size w w') : PartW2 w' N n l k x := by
  have hlt := h.lt
  obtain ⟨f, hr, hd, r⟩ := h
  refine ⟨f, hr.of_block (hb.block N hlt), fun i a hi ha => ?_, r⟩
  obtain ⟨h0, h1, h2⟩ := hd i a hi ha
  exact ⟨h0, h1, h2.keep (keeps_of_below _ hb)⟩

/-- The attributes are nil: nothing more is laid. -/
theorem PartW2.bare {w : World} {N n : Nat} {l : List Tr} {k : Nat} {x : Tr} (h : PartW2 w N n l k x) (hx : l[k]? = some x) (hn : x.ats = []) : PartW w N n l (k + 1) := by
  obtain ⟨f, hr, hd, hz, r0, r1⟩ := h
  refine ⟨f, hr, fun i a hi ha => ?_, fun i hi => hz i (by omega)⟩
  by_cases e : i = k
  · subst e
    rw [hx] at ha; injection ha with ha; subst ha
    exact ⟨r0, r1, .inl ⟨hz i (Nat.le_refl _), hn⟩⟩
  · exact hd i a (by omega) ha

theorem PartW2.done {w : World} {N n : Nat} {l : List Tr} {k : Nat} {x : Tr} {v : Value} (h : PartW2 w N n l k x) (hx : l[k]? = some x) (hv : AttrsIn (fun b => N < b) w v x.ats) :
    PartW (w.setCell ⟨N, k * 3 + 2, none⟩ v) N n l (k + 1) := by
  obtain ⟨f, hr, hd, hz, r0, r1⟩ := h
  refine ⟨_, hr.set (k * 3 + 2) v, fun i a hi ha => ?_, fun i hi => ?_⟩
  · by_cases e : i = k
    · subst e
      rw [hx] at ha; injection ha with ha; subst ha
      refine ⟨?_, ?_, ?_⟩
      · rw [if_neg (by omega)]; exact r0
      · rw [if_neg (by omega)]; exact r1
      · rw [if_pos rfl]; exact hv.keep (keeps_setCell _ _ _ _ (by simp))
    · obtain ⟨h0, h1, h2⟩ := hd i a (by omega) ha
      refine ⟨?_, ?_, ?_⟩
      · rw [if_neg (by omega)]; exact h0
      · rw [if_neg (by omega)]; exact h1
      · rw [if_neg (by omega)]; exact h2.keep (keeps_setCell _ _ _ _ (by simp))
  · rw [if_neg (by omega)]; exact hz i (by omega)

theorem PartW.all {w : World} {N n : Nat} {l : List Tr} (h : PartW w N n l n) (hm : l.length = n) (h63 : n ≤ maxLen) (hr : ∀ (i : Nat) (t : Tr), l[i]? = some t → 0 ≤ t.ty ∧ t.ty ≤ 255 ∧ 0 ≤ t.id ∧ t.id ≤ 65535) :
    TrsIn (fun b => N ≤ b) w (.slice (some ⟨N, 0, none⟩) n n) l := by
  obtain ⟨f, hrow, hd, _⟩ := h
  refine .inr ⟨N, 0, none, n, by rw [hm], by omega, h63, fun i a ha => ?_⟩
  have hlt := (List.getElem?_eq_some_iff.1 ha).1
  obtain ⟨h0, h1, h2⟩ := hd i a (by omega) ha
  obtain ⟨r0, r1, r2, r3⟩ := hr i a ha
  refine ⟨rfl, Nat.le_refl _, ?_, ?_, r0, r1, r2, r3, f (i * 3 + 2), ?_, h2.weak (fun b hb _ => by omega)⟩
  · rw [Nat.zero_add, hrow.cell (by omega), h0]
  · rw [Nat.zero_add, hrow.cell (by omega), h1]
  · rw [Nat.zero_add, hrow.cell (by omega)]

theorem AttrsIn.range {ok : Nat → Prop} {w : World} {v : Value} {l : List Attr} (h : AttrsIn ok w v l) : ∀ (i : Nat) (a : Attr), l[i]? = some a → 0 ≤ a.ty ∧ a.ty ≤ 65535 := by
  rcases h with ⟨_, rfl⟩ | ⟨b, o, s, cap, _, _, _, h3⟩
  · intro i n h; simp at h
  · intro i n hi; obtain ⟨_, _, _, _, r0, r1, _⟩ := h3 i n hi; exact ⟨r0, r1⟩
theorem TrsIn.range {ok : Nat → Prop} {w : World} {v : Value} {l : List Tr} (h : TrsIn ok w v l) : ∀ (i : Nat) (t : Tr), l[i]? = some t → 0 ≤ t.ty ∧ t.ty ≤ 255 ∧ 0 ≤ t.id ∧ t.id ≤ 65535 := by
  rcases h with ⟨_, rfl⟩ | ⟨b, o, s, cap, _, _, _, h3⟩
  · intro i n h; simp at h
  · intro i n hi; obtain ⟨_, _, _, _, r0, r1, r2, r3, _⟩ := h3 i n hi; exact ⟨r0, r1, r2, r3⟩

end Go.Proofs.Qxb6600910a
