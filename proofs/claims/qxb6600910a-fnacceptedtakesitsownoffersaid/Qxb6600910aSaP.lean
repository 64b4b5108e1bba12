/-
  What lies in memory while (template).sa is at work: no walk here.
-/
import Derived.Test.Qxb6600910aSClone
namespace Go.Proofs.Qxb6600910a
open Go.RowKit Go.ChangeShapes Go.WideShapes

/-! ### the cells of a slice of structs, as a list -/

theorem attr_cells {ok : Nat → Prop} {w : World} {x : Addr} {n cap : Nat} {l : List Attr} (h : AttrsIn ok w (.slice (some x) n cap) l) :
    ∃ cs : List Value, cs.length = n * 3 ∧ (∀ j u, cs[j]? = some u → w.cell? (x.add j) = some u) ∧ (∀ u ∈ cs, u.oneCell' = true) ∧
      ∀ i a, l[i]? = some a → cs[i * 3]? = some (.int .u16 a.ty) ∧ cs[i * 3 + 1]? = some (.bool a.tv) := by
  obtain ⟨hlen, _⟩ := h.len
  by_cases hn : n = 0
  · subst hn
    exact ⟨[], rfl, fun j u hj => by simp at hj, fun u hu => by simp at hu, fun i a ha => by
      have := (List.getElem?_eq_some_iff.1 ha).1; omega⟩
  · obtain ⟨b, o, _, _, hx, _⟩ := h.at (i := 0) (by omega)
    injection hx with hx; subst hx
    have key : ∀ i, i < n → ∃ t u, l[i]? = some t ∧ w.cell? ⟨b, o + i * 3, none⟩ = some (.int .u16 t.ty) ∧ w.cell? ⟨b, o + i * 3 + 1, none⟩ = some (.bool t.tv) ∧ w.cell? ⟨b, o + i * 3 + 2, none⟩ = some u ∧ u.oneCell' = true := fun i hi => by
      obtain ⟨b', o', t, u, he, hl, _, c0, c1, c2, hu, _⟩ := h.at hi
      injection he with he; injection he with e1 e2
      subst e1; subst e2
      obtain ⟨a, c, rfl, _⟩ := hu.form
      exact ⟨t, _, hl, c0, c1, c2, rfl⟩
    have all : ∀ j, j < n * 3 → ∃ u, w.cell? ⟨b, o + j, none⟩ = some u ∧ u.oneCell' = true := fun j hj => by
      obtain ⟨t, u, _, c0, c1, c2, h1⟩ := key (j / 3) (by omega)
      rcases (by omega : j = j / 3 * 3 ∨ j = j / 3 * 3 + 1 ∨ j = j / 3 * 3 + 2) with h | h | h
      · exact ⟨_, by rw [h, ← c0], rfl⟩
      · exact ⟨_, by rw [h, ← c1, Nat.add_assoc], rfl⟩
      · exact ⟨_, by rw [h, ← c2, Nat.add_assoc], h1⟩
    refine ⟨(List.range (n * 3)).map fun j => (w.cell? ⟨b, o + j, none⟩).getD undef, by simp, fun j u hj => ?_, fun u hu => ?_, fun i a ha => ?_⟩
    · have hjl := (List.getElem?_eq_some_iff.1 hj).1
      simp at hjl
      obtain ⟨u', hu', _⟩ := all j hjl
      simp [hjl, hu'] at hj
      rw [add_plain, hu', hj]
    · simp only [List.mem_map, List.mem_range] at hu
      obtain ⟨j, hj, rfl⟩ := hu
      obtain ⟨u', hu', h1⟩ := all j hj
      simp [hu', h1]
    · have hil := (List.getElem?_eq_some_iff.1 ha).1
      obtain ⟨t, u, hl, c0, c1, _⟩ := key i (by omega)
      rw [ha] at hl; injection hl with hl; subst hl
      have h0 : i * 3 < n * 3 := by omega
      have h1 : i * 3 + 1 < n * 3 := by omega
      rw [Nat.add_assoc] at c1
      constructor
      · simp [h0, c0]
      · simp [h1, c1]

theorem tr_cells {ok : Nat → Prop} {w : World} {x : Addr} {n cap : Nat} {l : List Tr} (h : TrsIn ok w (.slice (some x) n cap) l) :
    ∃ cs : List Value, cs.length = n * 3 ∧ (∀ j u, cs[j]? = some u → w.cell? (x.add j) = some u) ∧ (∀ u ∈ cs, u.oneCell' = true) ∧
      ∀ i t, l[i]? = some t → cs[i * 3]? = some (.int .u8 t.ty) ∧ cs[i * 3 + 1]? = some (.int .u16 t.id) ∧ ∃ u, cs[i * 3 + 2]? = some u ∧ AttrsIn ok w u t.ats := by
  obtain ⟨hlen, _⟩ := h.len
  by_cases hn : n = 0
  · subst hn
    exact ⟨[], rfl, fun j u hj => by simp at hj, fun u hu => by simp at hu, fun i a ha => by
      have := (List.getElem?_eq_some_iff.1 ha).1; omega⟩
  · obtain ⟨b, o, _, _, hx, _⟩ := h.at (i := 0) (by omega)
    injection hx with hx; subst hx
    have key : ∀ i, i < n → ∃ t u, l[i]? = some t ∧ w.cell? ⟨b, o + i * 3, none⟩ = some (.int .u8 t.ty) ∧ w.cell? ⟨b, o + i * 3 + 1, none⟩ = some (.int .u16 t.id) ∧ w.cell? ⟨b, o + i * 3 + 2, none⟩ = some u ∧ u.oneCell' = true ∧ AttrsIn ok w u t.ats := fun i hi => by
      obtain ⟨b', o', t, u, he, hl, _, c0, c1, c2, hu, _⟩ := h.at hi
      injection he with he; injection he with e1 e2
      subst e1; subst e2
      obtain ⟨a, c, rfl, _⟩ := hu.form
      exact ⟨t, _, hl, c0, c1, c2, rfl, hu⟩
    have all : ∀ j, j < n * 3 → ∃ u, w.cell? ⟨b, o + j, none⟩ = some u ∧ u.oneCell' = true := fun j hj => by
      obtain ⟨t, u, _, c0, c1, c2, h1, _⟩ := key (j / 3) (by omega)
      rcases (by omega : j = j / 3 * 3 ∨ j = j / 3 * 3 + 1 ∨ j = j / 3 * 3 + 2) with h | h | h
      · exact ⟨_, by rw [h, ← c0], rfl⟩
      · exact ⟨_, by rw [h, ← c1, Nat.add_assoc], rfl⟩
      · exact ⟨_, by rw [h, ← c2, Nat.add_assoc], h1⟩
    refine ⟨(List.range (n * 3)).map fun j => (w.cell? ⟨b, o + j, none⟩).getD undef, by simp, fun j u hj => ?_, fun u hu => ?_, fun i a ha => ?_⟩
    · have hjl := (List.getElem?_eq_some_iff.1 hj).1
      simp at hjl
      obtain ⟨u', hu', _⟩ := all j hjl
      simp [hjl, hu'] at hj
      rw [add_plain, hu', hj]
    · simp only [List.mem_map, List.mem_range] at hu
      obtain ⟨j, hj, rfl⟩ := hu
      obtain ⟨u', hu', h1⟩ := all j hj
      simp [hu', h1]
    · have hil := (List.getElem?_eq_some_iff.1 ha).1
      obtain ⟨t, u, hl, c0, c1, c2, _, hu⟩ := key i (by omega)
      rw [ha] at hl; injection hl with hl; subst hl
      have h0 : i * 3 < n * 3 := by omega
      have h1 : i * 3 + 1 < n * 3 := by omega
      have h2 : i * 3 + 2 < n * 3 := by omega
      rw [Nat.add_assoc] at c1 c2
      refine ⟨?_, ?_, u, ?_, hu⟩
      · simp [h0, c0]
      · simp [h1, c1]
      · simp [h2, c2]

/-! ### the attributes of one transform: cloned; their values are being cloned -/

/-- Block M is the row of the cloned attributes; of the first k the values are clones too. -/
def SaV (w : World) (M c : Nat) (l : List Attr) (k : Nat) : Prop :=
  ∃ f, w.rowIs M 66 (c * 3) f ∧ ∀ i a, l[i]? = some a → f (i * 3) = .int .u16 a.ty ∧ f (i * 3 + 1) = .bool a.tv ∧ (i < k → BytesIn (OkF (fun b => M < b) w) w (f (i * 3 + 2)) a.val)

theorem SaV.cell {w : World} {M c : Nat} {l : List Attr} {k : Nat} (h : SaV w M c l k) (j : Nat) (hj : j < c * 3) : ∃ v, w.cell? ⟨M, j, none⟩ = some v := by
  obtain ⟨f, hr, _⟩ := h; exact ⟨_, hr.cell hj⟩
theorem SaV.frozen {w : World} {M c : Nat} {l : List Attr} {k : Nat} (h : SaV w M c l k) (j : Nat) : w.frozen? ⟨M, j, none⟩ = false := by
  obtain ⟨f, hr, _⟩ := h; exact hr.frozen j
theorem SaV.lt {w : World} {M c : Nat} {l : List Attr} {k : Nat} (h : SaV w M c l k) : M < w.heap.size := by
  obtain ⟨f, hr, _⟩ := h; exact hr.lt

theorem SaV.below {w w' : World} {M c : Nat} {l : List Attr} {k : Nat} (h : SaV w M c l k) (hb : Below w.heap.size w w') : SaV w' M c l k := by
  have hlt := h.lt
  obtain ⟨f, hr, hd⟩ := h
  refine ⟨f, hr.of_block (hb.block M hlt), fun i a ha => ?_⟩
  obtain ⟨h0, h1, h2⟩ := hd i a ha
  exact ⟨h0, h1, fun hi => (h2 hi).fkeep (keepsF_below _ hb)⟩

theorem SaV.next {w : World} {M c : Nat} {l : List Attr} {k : Nat} {x : Attr} {v : Value} (h : SaV w M c l k) (hx : l[k]? = some x) (hv : BytesIn (OkF (fun b => M < b) w) w v x.val) :
    SaV (w.setCell ⟨M, k * 3 + 2, none⟩ v) M c l (k + 1) := by
  obtain ⟨f, hr, hd⟩ := h
  have kk : KeepsF (fun b => M < b) w (w.setCell ⟨M, k * 3 + 2, none⟩ v) := keepsF_setCell _ _ _ _ (by simp)
  refine ⟨_, hr.set (k * 3 + 2) v, fun i a ha => ?_⟩
  obtain ⟨h0, h1, h2⟩ := hd i a ha
  refine ⟨by rw [if_neg (by omega)]; exact h0, by rw [if_neg (by omega)]; exact h1, fun hi => ?_⟩
  by_cases e : i = k
  · subst e
    rw [hx] at ha; injection ha with ha; subst ha
    rw [if_pos rfl]; exact hv.fkeep kk
  · rw [if_neg (by omega)]; exact (h2 (by omega)).fkeep kk

theorem SaV.all {w : World} {M c : Nat} {l : List Attr} (h : SaV w M c l l.length) (hc : l.length ≤ c) (h63 : c ≤ maxLen) (hr : ∀ (i : Nat) (a : Attr), l[i]? = some a → 0 ≤ a.ty ∧ a.ty ≤ 65535) :
    AttrsIn (OkF (fun b => M ≤ b) w) w (.slice (some ⟨M, 0, none⟩) l.length c) l := by
  obtain ⟨f, hrow, hd⟩ := h
  refine .inr ⟨M, 0, none, c, rfl, hc, h63, fun i a ha => ?_⟩
  have hlt := (List.getElem?_eq_some_iff.1 ha).1
  obtain ⟨h0, h1, h2⟩ := hd i a ha
  refine ⟨rfl, ⟨Nat.le_refl _, fun off => hrow.frozen off⟩, ?_, ?_, (hr i a ha).1, (hr i a ha).2, f (i * 3 + 2), ?_, (h2 hlt).weak (fun b hb _ => ⟨Nat.le_of_lt hb.1, hb.2⟩)⟩
  · rw [Nat.zero_add, hrow.cell (by omega), h0]
  · rw [Nat.zero_add, hrow.cell (by omega), h1]
  · rw [Nat.zero_add, hrow.cell (by omega)]

/-- Out of the clone. -/
theorem SaV.start {w : World} {M c : Nat} {l : List Attr} {cs : List Value} {f : Nat → Value} (hr : w.rowIs M 66 (c * 3) f) (hf : ∀ j u, cs[j]? = some u → f j = u)
    (hc : ∀ i a, l[i]? = some a → cs[i * 3]? = some (.int .u16 a.ty) ∧ cs[i * 3 + 1]? = some (.bool a.tv)) : SaV w M c l 0 :=
  ⟨f, hr, fun i a ha => ⟨hf _ _ (hc i a ha).1, hf _ _ (hc i a ha).2, fun hi => by omega⟩⟩

/-- A store into a block below. -/
theorem SaV.other {w : World} {M c : Nat} {l : List Attr} {k : Nat} {a : Addr} {v : Value} (h : SaV w M c l k) (ha : a.block < M) : SaV (w.setCell a v) M c l k := by
  obtain ⟨f, hr, hd⟩ := h
  refine ⟨f, hr.setOther (by omega) v, fun i x hx => ?_⟩
  obtain ⟨h0, h1, h2⟩ := hd i x hx
  exact ⟨h0, h1, fun hi => (h2 hi).fkeep (keepsF_setCell _ _ _ _ (by omega))⟩

/-! ### the transforms -/

/-- Block G is the row of the cloned transforms; of the first k the attributes are clones too, those of the others still lie below N. -/
def SaW (N : Nat) (w : World) (G c : Nat) (l : List Tr) (k : Nat) : Prop :=
  ∃ f, w.rowIs G 61 (c * 3) f ∧ ∀ i t, l[i]? = some t → f (i * 3) = .int .u8 t.ty ∧ f (i * 3 + 1) = .int .u16 t.id ∧ (i < k → AttrsIn (OkF (fun b => G < b) w) w (f (i * 3 + 2)) t.ats) ∧
    (k ≤ i → AttrsIn (fun b => b < N) w (f (i * 3 + 2)) t.ats)

theorem SaW.cell {N : Nat} {w : World} {G c : Nat} {l : List Tr} {k : Nat} (h : SaW N w G c l k) (j : Nat) (hj : j < c * 3) : ∃ v, w.cell? ⟨G, j, none⟩ = some v := by
  obtain ⟨f, hr, _⟩ := h; exact ⟨_, hr.cell hj⟩
theorem SaW.frozen {N : Nat} {w : World} {G c : Nat} {l : List Tr} {k : Nat} (h : SaW N w G c l k) (j : Nat) : w.frozen? ⟨G, j, none⟩ = false := by
  obtain ⟨f, hr, _⟩ := h; exact hr.frozen j
theorem SaW.lt {N : Nat} {w : World} {G c : Nat} {l : List Tr} {k : Nat} (h : SaW N w G c l k) : G < w.heap.size := by
  obtain ⟨f, hr, _⟩ := h; exact hr.lt
theorem SaW.at {N : Nat} {w : World} {G c : Nat} {l : List Tr} {k : Nat} {t : Tr} (h : SaW N w G c l k) (ht : l[k]? = some t) (hc : k < c) :
    ∃ u, w.cell? ⟨G, k * 3, none⟩ = some (.int .u8 t.ty) ∧ w.cell? ⟨G, k * 3 + 1, none⟩ = some (.int .u16 t.id) ∧ w.cell? ⟨G, k * 3 + 2, none⟩ = some u ∧ AttrsIn (fun b => b < N) w u t.ats := by
  obtain ⟨f, hr, hd⟩ := h
  obtain ⟨h0, h1, _, h3⟩ := hd k t ht
  exact ⟨f (k * 3 + 2), by rw [hr.cell (by omega), h0], by rw [hr.cell (by omega), h1], hr.cell (by omega), h3 (Nat.le_refl _)⟩

theorem SaW.below {N : Nat} {w w' : World} {G c : Nat} {l : List Tr} {k : Nat} (h : SaW N w G c l k) (hb : Below w.heap.size w w') : SaW N w' G c l k := by
  have hlt := h.lt
  obtain ⟨f, hr, hd⟩ := h
  refine ⟨f, hr.of_block (hb.block G hlt), fun i a ha => ?_⟩
  obtain ⟨h0, h1, h2, h3⟩ := hd i a ha
  exact ⟨h0, h1, fun hi => (h2 hi).fkeep (keepsF_below _ hb), fun hi => (h3 hi).keep (keeps_of_below _ hb)⟩

theorem SaW.next {N : Nat} {w : World} {G c : Nat} {l : List Tr} {k : Nat} {x : Tr} {v : Value} (h : SaW N w G c l k) (hN : N ≤ G) (hx : l[k]? = some x) (hv : AttrsIn (OkF (fun b => G < b) w) w v x.ats) :
    SaW N (w.setCell ⟨G, k * 3 + 2, none⟩ v) G c l (k + 1) := by
  obtain ⟨f, hr, hd⟩ := h
  have kk : KeepsF (fun b => G < b) w (w.setCell ⟨G, k * 3 + 2, none⟩ v) := keepsF_setCell _ _ _ _ (by simp)
  refine ⟨_, hr.set (k * 3 + 2) v, fun i a ha => ?_⟩
  obtain ⟨h0, h1, h2, h3⟩ := hd i a ha
  refine ⟨by rw [if_neg (by omega)]; exact h0, by rw [if_neg (by omega)]; exact h1, fun hi => ?_, fun hi => ?_⟩
  · by_cases e : i = k
    · subst e
      rw [hx] at ha; injection ha with ha; subst ha
      rw [if_pos rfl]; exact hv.fkeep kk
    · rw [if_neg (by omega)]; exact (h2 (by omega)).fkeep kk
  · rw [if_neg (by omega)]; exact (h3 (by omega)).keep (keeps_setCell _ _ _ _ (by simp; omega))

theorem SaW.all {N : Nat} {w : World} {G c : Nat} {l : List Tr} (h : SaW N w G c l l.length) (hc : l.length ≤ c) (h63 : c ≤ maxLen) (hr : ∀ (i : Nat) (t : Tr), l[i]? = some t → 0 ≤ t.ty ∧ t.ty ≤ 255 ∧ 0 ≤ t.id ∧ t.id ≤ 65535) :
    TrsIn (OkF (fun b => G ≤ b) w) w (.slice (some ⟨G, 0, none⟩) l.length c) l := by
  obtain ⟨f, hrow, hd⟩ := h
  refine .inr ⟨G, 0, none, c, rfl, hc, h63, fun i a ha => ?_⟩
  have hlt := (List.getElem?_eq_some_iff.1 ha).1
  obtain ⟨h0, h1, h2, _⟩ := hd i a ha
  obtain ⟨r0, r1, r2, r3⟩ := hr i a ha
  refine ⟨rfl, ⟨Nat.le_refl _, fun off => hrow.frozen off⟩, ?_, ?_, r0, r1, r2, r3, f (i * 3 + 2), ?_, (h2 hlt).weak (fun b hb _ => ⟨Nat.le_of_lt hb.1, hb.2⟩)⟩
  · rw [Nat.zero_add, hrow.cell (by omega), h0]
  · rw [Nat.zero_add, hrow.cell (by omega), h1]
  · rw [Nat.zero_add, hrow.cell (by omega)]

theorem SaW.start {N : Nat} {w : World} {G c : Nat} {l : List Tr} {cs : List Value} {f : Nat → Value} (hr : w.rowIs G 61 (c * 3) f) (hf : ∀ j u, cs[j]? = some u → f j = u)
    (hc : ∀ i t, l[i]? = some t → cs[i * 3]? = some (.int .u8 t.ty) ∧ cs[i * 3 + 1]? = some (.int .u16 t.id) ∧ ∃ u, cs[i * 3 + 2]? = some u ∧ AttrsIn (fun b => b < N) w u t.ats) : SaW N w G c l 0 := by
  refine ⟨f, hr, fun i a ha => ?_⟩
  obtain ⟨h0, h1, u, h2, h3⟩ := hc i a ha
  exact ⟨hf _ _ h0, hf _ _ h1, fun hi => by omega, fun _ => by rw [hf _ _ h2]; exact h3⟩

/-- The k-th transform's attributes have been cloned, deep: what was there else is as it was. -/
theorem SaW.finish {N : Nat} {wr w' : World} {G c : Nat} {l : List Tr} {k : Nat} {x : Tr} {v : Value} (h : SaW N wr G c l k) (hN : N ≤ G) (hx : l[k]? = some x)
    (hblk : w'.heap[G]? = (wr.setCell ⟨G, k * 3 + 2, none⟩ v).heap[G]?) (hold : ∀ b, b < wr.heap.size → b ≠ G → w'.heap[b]? = wr.heap[b]?) (hv : AttrsIn (OkF (fun b => G < b) w') w' v x.ats) : SaW N w' G c l (k + 1) := by
  obtain ⟨f, hr, hd⟩ := h
  have kk : KeepsF (fun b => G < b) wr w' := ⟨fun a u ha hu => by rw [World.cell?_of_block (w := wr) (hold _ (cell_lt hu) (by omega))]; exact hu,
    fun b off hb hlt => World.frozen?_of_block (w := wr) (hold b hlt (by omega))⟩
  have kn : Keeps (fun b => b < N) wr w' := fun a u ha hu => by rw [World.cell?_of_block (w := wr) (hold _ (cell_lt hu) (by omega))]; exact hu
  refine ⟨_, (hr.set (k * 3 + 2) v).of_block hblk, fun i a ha => ?_⟩
  obtain ⟨h0, h1, h2, h3⟩ := hd i a ha
  refine ⟨by rw [if_neg (by omega)]; exact h0, by rw [if_neg (by omega)]; exact h1, fun hi => ?_, fun hi => ?_⟩
  · by_cases e : i = k
    · subst e
      rw [hx] at ha; injection ha with ha; subst ha
      rw [if_pos rfl]; exact hv
    · rw [if_neg (by omega)]; exact (h2 (by omega)).fkeep kk
  · rw [if_neg (by omega)]; exact (h3 (by omega)).keep kn

/-- One store, in two worlds whose block is the same. -/
theorem block_setCell {w w' : World} {a : Addr} {v : Value} {b : Nat} (h : w'.heap[b]? = w.heap[b]?) : (w'.setCell a v).heap[b]? = (w.setCell a v).heap[b]? := by
  simp only [World.setCell, Array.getElem?_modify, h]

/-- What clone48 leaves of attributes. -/
theorem clone48_attrs {ok : Nat → Prop} (x : Addr) (n cap : Nat) (l : List Attr) (w : World) (h : AttrsIn ok w (.slice (some x) n cap) l) (hn : n ≤ 1048576) :
    Calls Try.prog 48 #[.slice (some x) n cap] w (Gives w (fun w' v => (v = .slice none 0 0 ∧ n = 0) ∨ ∃ M c, v = .slice (some ⟨M, 0, none⟩) n c ∧ w.heap.size ≤ M ∧ n ≤ c ∧ c ≤ maxLen ∧ SaV w' M c l 0)) := by
  obtain ⟨cs, h1, h2, h3, h4⟩ := attr_cells h
  refine (clone48 x n cap cs w h1 h2 h3 hn).mono fun e w' ⟨⟨v, he, hv⟩, hb⟩ => ⟨⟨v, he, ?_⟩, hb⟩
  rcases owns_form hv with h0 | ⟨g, c, hv', hg, hc1, hc2, f, hrow, hf⟩
  · exact .inl h0
  · exact .inr ⟨g, c, hv', hg, hc1, hc2, SaV.start hrow hf h4⟩

theorem clone48_any {ok : Nat → Prop} (v : Value) (l : List Attr) (w : World) (h : AttrsIn ok w v l) (hn : l.length ≤ 1048576) :
    Calls Try.prog 48 #[v] w (Gives w (fun w' v => (v = .slice none 0 0 ∧ l = []) ∨ ∃ M c, v = .slice (some ⟨M, 0, none⟩) l.length c ∧ w.heap.size ≤ M ∧ l.length ≤ c ∧ c ≤ maxLen ∧ SaV w' M c l 0)) := by
  rcases h with ⟨rfl, rfl⟩ | ⟨b, o, s, cap, rfl, h1, h2, h3⟩
  · exact (clone48_nil w).mono fun e w' ⟨he, hw⟩ => ⟨⟨_, he, .inl ⟨rfl, rfl⟩⟩, hw ▸ Below.refl _ _⟩
  · refine (clone48_attrs ⟨b, o, s⟩ l.length cap l w (.inr ⟨b, o, s, cap, rfl, h1, h2, h3⟩) hn).mono fun e w' ⟨⟨v, he, hv⟩, hb⟩ => ⟨⟨v, he, ?_⟩, hb⟩
    rcases hv with ⟨e1, e2⟩ | hv
    · exact .inl ⟨e1, List.eq_nil_of_length_eq_zero e2⟩
    · exact .inr hv

theorem clone47_trs {N : Nat} (x : Addr) (n cap : Nat) (l : List Tr) (w : World) (h : TrsIn (fun b => b < N) w (.slice (some x) n cap) l) (hn : n ≤ 1048576) :
    Calls Try.prog 47 #[.slice (some x) n cap] w (Gives w (fun w' v => (v = .slice none 0 0 ∧ n = 0) ∨ ∃ G c, v = .slice (some ⟨G, 0, none⟩) n c ∧ w.heap.size ≤ G ∧ n ≤ c ∧ c ≤ maxLen ∧ SaW N w' G c l 0)) := by
  obtain ⟨cs, h1, h2, h3, h4⟩ := tr_cells h
  refine (clone47 x n cap cs w h1 h2 h3 hn).mono fun e w' ⟨⟨v, he, hv⟩, hb⟩ => ⟨⟨v, he, ?_⟩, hb⟩
  rcases owns_form hv with h0 | ⟨g, c, hv', hg, hc1, hc2, f, hrow, hf⟩
  · exact .inl h0
  · refine .inr ⟨g, c, hv', hg, hc1, hc2, SaW.start hrow hf (fun i t ht => ?_)⟩
    obtain ⟨k0, k1, u, k2, k3⟩ := h4 i t ht
    exact ⟨k0, k1, u, k2, k3.keep (keeps_of_below _ hb)⟩

end Go.Proofs.Qxb6600910a
