/-
  Insertion sort of keys: plain lists, and how they lie in memory. No walk here.
-/
import Derived.Test.Qxb6600910aKeyLaw
namespace Go.Proofs.Qxb6600910a
open Go.RowKit

def SortedUp (ks : List (List Int)) (i : Nat) : Prop := ∀ (a b : Nat) (x y : List Int), a < b → b < i → ks[a]? = some x → ks[b]? = some y → cmpL x y ≤ 0
/-- All but the j-th are in order up to i; the j-th is not above any behind it. -/
def InsUp (ks : List (List Int)) (i j : Nat) : Prop :=
  (∀ (a b : Nat) (x y : List Int), a < b → b ≤ i → a ≠ j → b ≠ j → ks[a]? = some x → ks[b]? = some y → cmpL x y ≤ 0) ∧
  ∀ (b : Nat) (x y : List Int), j < b → b ≤ i → ks[j]? = some x → ks[b]? = some y → cmpL x y ≤ 0
def SameMem (ks ls : List (List Int)) : Prop := ∀ x, x ∈ ks ↔ x ∈ ls
/-- The q-th and the one behind it change places. -/
def swp (ks : List (List Int)) (q : Nat) (u v : List Int) : List (List Int) := (ks.set q v).set (q + 1) u

theorem swp_get {ks : List (List Int)} {q : Nat} {u v : List Int} (h : q + 1 < ks.length) (i : Nat) : (swp ks q u v)[i]? = if i = q then some v else if i = q + 1 then some u else ks[i]? := by
  unfold swp
  rw [List.getElem?_set, List.getElem?_set]
  simp only [List.length_set]
  by_cases e1 : i = q
  · subst e1
    rw [if_neg (by omega), if_pos rfl, if_pos (by omega), if_pos rfl]
  · by_cases e2 : i = q + 1
    · subst e2
      rw [if_pos rfl, if_pos (by omega), if_neg (by omega), if_pos rfl]
    · rw [if_neg (by omega), if_neg (by omega), if_neg e1, if_neg e2]

theorem SortedUp.one (ks : List (List Int)) : SortedUp ks 1 := fun a b x y h1 h2 => by omega
theorem SortedUp.ins {ks : List (List Int)} {i : Nat} (h : SortedUp ks i) : InsUp ks i i :=
  ⟨fun a b x y h1 h2 h3 h4 ha hb => h a b x y h1 (by omega) ha hb, fun b x y h1 h2 => by omega⟩
theorem SortedUp.mono {ks : List (List Int)} {i k : Nat} (h : SortedUp ks i) (hk : k ≤ i) : SortedUp ks k := fun a b x y h1 h2 => h a b x y h1 (by omega)

theorem InsUp.swp {ks : List (List Int)} {i q : Nat} {u v : List Int} (h : InsUp ks i (q + 1)) (hq : ks[q]? = some u) (hq' : ks[q + 1]? = some v) (hc : 0 < cmpL u v) (_hi : q + 1 ≤ i) : InsUp (swp ks q u v) i q := by
  have hl := (List.getElem?_eq_some_iff.1 hq').1
  obtain ⟨h1, h2⟩ := h
  constructor
  · intro a b x y hab hbi ha hb hx hy
    rw [swp_get hl] at hx hy
    rw [if_neg ha] at hx
    rw [if_neg hb] at hy
    by_cases ea : a = q + 1
    · rw [if_pos ea] at hx; injection hx with hx; subst hx
      rw [if_neg (by omega)] at hy
      exact h1 q b _ y (by omega) hbi (by omega) (by omega) hq hy
    · rw [if_neg ea] at hx
      by_cases eb : b = q + 1
      · rw [if_pos eb] at hy; injection hy with hy; subst hy
        exact h1 a q x _ (by omega) (by omega) (by omega) (by omega) hx hq
      · rw [if_neg eb] at hy
        exact h1 a b x y hab hbi ea eb hx hy
  · intro b x y hqb hbi hx hy
    rw [swp_get hl] at hx hy
    rw [if_pos rfl] at hx; injection hx with hx; subst hx
    rw [if_neg (by omega)] at hy
    by_cases eb : b = q + 1
    · rw [if_pos eb] at hy; injection hy with hy; subst hy
      rw [cmpL_neg]; omega
    · rw [if_neg eb] at hy
      exact h2 b _ y (by omega) hbi hq' hy

theorem InsUp.stop0 {ks : List (List Int)} {i : Nat} (h : InsUp ks i 0) : SortedUp ks (i + 1) := fun a b x y h1 h2 ha hb => by
  by_cases e : a = 0
  · subst e; exact h.2 b x y h1 (by omega) ha hb
  · exact h.1 a b x y h1 (by omega) e (by omega) ha hb
theorem InsUp.stop {ks : List (List Int)} {i q : Nat} {u v : List Int} (h : InsUp ks i (q + 1)) (hq : ks[q]? = some u) (hq' : ks[q + 1]? = some v) (hc : cmpL u v ≤ 0) (hi : q + 1 ≤ i) : SortedUp ks (i + 1) := fun a b x y h1 h2 ha hb => by
  by_cases eb : b = q + 1
  · subst eb
    rw [hq'] at hb; injection hb with hb; subst hb
    by_cases ea : a = q
    · subst ea; rw [hq] at ha; injection ha with ha; subst ha; exact hc
    · exact cmpL_trans (h.1 a q x u (by omega) (by omega) (by omega) (by omega) ha hq) hc
  · by_cases ea : a = q + 1
    · subst ea
      exact h.2 b x y h1 (by omega) ha hb
    · exact h.1 a b x y h1 (by omega) ea eb ha hb

theorem SameMem.refl (ks : List (List Int)) : SameMem ks ks := fun _ => Iff.rfl
theorem SameMem.swp {ks ls : List (List Int)} {q : Nat} {u v : List Int} (h : SameMem ks ls) (hq : ks[q]? = some u) (hq' : ks[q + 1]? = some v) : SameMem (swp ks q u v) ls := fun x => by
  have hl := (List.getElem?_eq_some_iff.1 hq').1
  rw [← h x]
  constructor
  · intro hx
    obtain ⟨i, hi⟩ := List.mem_iff_getElem?.1 hx
    rw [swp_get hl] at hi
    split at hi
    · injection hi with hi; subst hi; exact List.mem_of_getElem? hq'
    · split at hi
      · injection hi with hi; subst hi; exact List.mem_of_getElem? hq
      · exact List.mem_of_getElem? hi
  · intro hx
    obtain ⟨i, hi⟩ := List.mem_iff_getElem?.1 hx
    by_cases e1 : i = q
    · subst e1; rw [hq] at hi; injection hi with hi; subst hi
      refine List.mem_of_getElem? (i := i + 1) ?_
      rw [swp_get hl, if_neg (by omega), if_pos rfl]
    · by_cases e2 : i = q + 1
      · subst e2; rw [hq'] at hi; injection hi with hi; subst hi
        refine List.mem_of_getElem? (i := q) ?_
        rw [swp_get hl, if_pos rfl]
      · refine List.mem_of_getElem? (i := i) ?_
        rw [swp_get hl, if_neg e1, if_neg e2]; exact hi

/-! ### the keys in memory -/

/-- Block G is a row of n slices that lead to the keys ks. -/
def KeysAt (w : World) (G n : Nat) (ks : List (List Int)) : Prop := ks.length = n ∧ ∃ f, w.rowIs G 33 n f ∧ ∀ (i : Nat) (k : List Int), ks[i]? = some k → BytesIn (fun b => G < b) w (f i) k

theorem KeysAt.at {w : World} {G n : Nat} {ks : List (List Int)} (h : KeysAt w G n ks) {i : Nat} (hi : i < n) : ∃ u k, w.cell? ⟨G, i, none⟩ = some u ∧ ks[i]? = some k ∧ BytesIn (fun b => G < b) w u k := by
  obtain ⟨hl, f, hr, hk⟩ := h
  have he := List.getElem?_eq_getElem (l := ks) (i := i) (by omega)
  exact ⟨f i, _, hr.cell hi, he, hk i _ he⟩
theorem KeysAt.frozen {w : World} {G n : Nat} {ks : List (List Int)} (h : KeysAt w G n ks) (i : Nat) : w.frozen? ⟨G, i, none⟩ = false := by
  obtain ⟨hl, f, hr, hk⟩ := h; exact hr.frozen i
theorem KeysAt.lt {w : World} {G n : Nat} {ks : List (List Int)} (h : KeysAt w G n ks) : G < w.heap.size := by
  obtain ⟨hl, f, hr, hk⟩ := h; exact hr.lt
theorem KeysAt.below {w w' : World} {G n : Nat} {ks : List (List Int)} (h : KeysAt w G n ks) (hb : Below w.heap.size w w') : KeysAt w' G n ks := by
  have hlt := h.lt
  obtain ⟨hl, f, hr, hk⟩ := h
  exact ⟨hl, f, hr.of_block (hb.block G hlt), fun i k hi => (hk i k hi).keep (keeps_of_below _ hb)⟩

theorem KeysAt.swp {w : World} {G n : Nat} {ks : List (List Int)} {q : Nat} {a b : List Int} {u v : Value} (h : KeysAt w G n ks) (hq : ks[q]? = some a) (hq' : ks[q + 1]? = some b) (hu : w.cell? ⟨G, q, none⟩ = some u) (hv : w.cell? ⟨G, q + 1, none⟩ = some v) :
    KeysAt ((w.setCell ⟨G, q, none⟩ v).setCell ⟨G, q + 1, none⟩ u) G n (swp ks q a b) := by
  obtain ⟨hl, f, hr, hk⟩ := h
  have hlt := (List.getElem?_eq_some_iff.1 hq').1
  have eu : f q = u := by have := hr.cell (i := q) (by omega); rw [hu] at this; injection this with this; exact this.symm
  have ev : f (q + 1) = v := by have := hr.cell (i := q + 1) (by omega); rw [hv] at this; injection this with this; exact this.symm
  subst eu
  subst ev
  have kk : Keeps (fun b => G < b) w ((w.setCell ⟨G, q, none⟩ (f (q + 1))).setCell ⟨G, q + 1, none⟩ (f q)) := (keeps_setCell _ _ _ _ (by simp)).trans (keeps_setCell _ _ _ _ (by simp))
  refine ⟨by unfold Qxb6600910a.swp; simp [hl], _, (hr.set q _).set (q + 1) _, fun i k hi => ?_⟩
  rw [swp_get hlt] at hi
  by_cases e1 : i = q
  · rw [if_pos e1] at hi; injection hi with hi; subst hi
    rw [if_neg (by omega), if_pos e1]
    exact (hk _ _ hq').keep kk
  · rw [if_neg e1] at hi
    by_cases e2 : i = q + 1
    · rw [if_pos e2] at hi; injection hi with hi; subst hi
      rw [if_pos e2]
      exact (hk _ _ hq).keep kk
    · rw [if_neg e2] at hi
      rw [if_neg e2, if_neg e1]
      exact (hk i k hi).keep kk

/-- While the keys are being laid: the first k. -/
def PartK (w : World) (G n : Nat) (l : List Tr) (k : Nat) : Prop := ∃ f, w.rowIs G 33 n f ∧ ∀ (i : Nat) (t : Tr), i < k → l[i]? = some t → BytesIn (fun b => G < b) w (f i) (keyOf t)

theorem PartK.start {w : World} {G n : Nat} {l : List Tr} {f : Nat → Value} (h : w.rowIs G 33 n f) : PartK w G n l 0 := ⟨f, h, fun i t hi => by omega⟩
theorem PartK.cell {w : World} {G n : Nat} {l : List Tr} {k : Nat} (h : PartK w G n l k) (j : Nat) (hj : j < n) : ∃ v, w.cell? ⟨G, j, none⟩ = some v := by
  obtain ⟨f, hr, _⟩ := h; exact ⟨_, hr.cell hj⟩
theorem PartK.frozen {w : World} {G n : Nat} {l : List Tr} {k : Nat} (h : PartK w G n l k) (j : Nat) : w.frozen? ⟨G, j, none⟩ = false := by
  obtain ⟨f, hr, _⟩ := h; exact hr.frozen j
theorem PartK.lt {w : World} {G n : Nat} {l : List Tr} {k : Nat} (h : PartK w G n l k) : G < w.heap.size := by
  obtain ⟨f, hr, _⟩ := h; exact hr.lt
theorem PartK.below {w w' : World} {G n : Nat} {l : List Tr} {k : Nat} (h : PartK w G n l k) (hb : Below w.heap.size w w') : PartK w' G n l k := by
  have hlt := h.lt
  obtain ⟨f, hr, hk⟩ := h
  exact ⟨f, hr.of_block (hb.block G hlt), fun i t hi ht => (hk i t hi ht).keep (keeps_of_below _ hb)⟩
theorem PartK.next {w : World} {G n : Nat} {l : List Tr} {k : Nat} {t : Tr} {v : Value} (h : PartK w G n l k) (ht : l[k]? = some t) (hv : BytesIn (fun b => G < b) w v (keyOf t)) : PartK (w.setCell ⟨G, k, none⟩ v) G n l (k + 1) := by
  obtain ⟨f, hr, hk⟩ := h
  have kk : Keeps (fun b => G < b) w (w.setCell ⟨G, k, none⟩ v) := keeps_setCell _ _ _ _ (by simp)
  refine ⟨_, hr.set k v, fun i x hi hx => ?_⟩
  by_cases e : i = k
  · subst e; rw [ht] at hx; injection hx with hx; subst hx
    rw [if_pos rfl]; exact hv.keep kk
  · rw [if_neg e]; exact (hk i x (by omega) hx).keep kk
theorem PartK.all {w : World} {G : Nat} {l : List Tr} (h : PartK w G l.length l l.length) : KeysAt w G l.length (l.map keyOf) := by
  obtain ⟨f, hr, hk⟩ := h
  refine ⟨by simp, f, hr, fun i k hi => ?_⟩
  rw [List.getElem?_map, Option.map_eq_some_iff] at hi
  obtain ⟨t, ht, rfl⟩ := hi
  exact hk i t (List.getElem?_eq_some_iff.1 ht).1 ht

/-! ### the search -/
def FindUp (ks : List (List Int)) (key : List Int) (lo hi : Nat) : Prop :=
  (∀ (i : Nat) (k : List Int), i < lo → ks[i]? = some k → cmpL k key < 0) ∧ ∀ (i : Nat) (k : List Int), hi ≤ i → ks[i]? = some k → 0 < cmpL k key
theorem FindUp.zero (ks : List (List Int)) (key : List Int) : FindUp ks key 0 ks.length :=
  ⟨fun i k h => by omega, fun i k h hk => by have := (List.getElem?_eq_some_iff.1 hk).1; omega⟩
theorem FindUp.right {ks : List (List Int)} {key x : List Int} {lo hi m : Nat} (h : FindUp ks key lo hi) (hs : SortedUp ks ks.length) (hm : ks[m]? = some x) (hc : cmpL x key < 0) : FindUp ks key (m + 1) hi := by
  refine ⟨fun i k hi' hk => ?_, h.2⟩
  by_cases e : i = m
  · subst e; rw [hm] at hk; injection hk with hk; subst hk; exact hc
  · have h1 := hs i m k x (by omega) (List.getElem?_eq_some_iff.1 hm).1 hk hm
    have h2 : cmpL k key ≤ 0 := cmpL_trans h1 (by omega)
    rcases Int.lt_or_eq_of_le h2 with g | g
    · exact g
    · have e' := cmpL_zero g
      subst e'
      rw [cmpL_neg] at h1; omega
theorem FindUp.left {ks : List (List Int)} {key x : List Int} {lo hi m : Nat} (h : FindUp ks key lo hi) (hs : SortedUp ks ks.length) (hm : ks[m]? = some x) (hc : 0 < cmpL x key) : FindUp ks key lo m := by
  refine ⟨h.1, fun i k hi' hk => ?_⟩
  by_cases e : i = m
  · subst e; rw [hm] at hk; injection hk with hk; subst hk; exact hc
  · have h1 := hs m i x k (by omega) (List.getElem?_eq_some_iff.1 hk).1 hm hk
    have hkx : cmpL key x ≤ 0 := by rw [cmpL_neg]; omega
    have h2 : cmpL key k ≤ 0 := cmpL_trans hkx h1
    have h3 : 0 ≤ cmpL k key := by rw [cmpL_neg]; omega
    rcases Int.lt_or_eq_of_le h3 with g | g
    · exact g
    · have e' := cmpL_zero g.symm
      subst e'
      omega
theorem FindUp.none {ks : List (List Int)} {key : List Int} {lo hi : Nat} (h : FindUp ks key lo hi) (hl : hi ≤ lo) : ks.contains key = false := by
  rw [← Bool.not_eq_true, List.contains_iff_mem]
  intro hm
  obtain ⟨i, hi'⟩ := List.mem_iff_getElem?.1 hm
  have hself := cmpL_self key
  by_cases e : i < lo
  · have := h.1 i key e hi'; omega
  · have := h.2 i key (by omega) hi'; omega

theorem SameMem.contains {ks ls : List (List Int)} (h : SameMem ks ls) (x : List Int) : ks.contains x = ls.contains x := by
  rw [Bool.eq_iff_iff, List.contains_iff_mem, List.contains_iff_mem]; exact h x
end Go.Proofs.Qxb6600910a
