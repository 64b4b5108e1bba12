/-
  The plain law of the keys: two transforms are equal exactly when their keys are. No Go in sight but the definitions' home.
-/
import Derived.Test.Qxb6600910aHolds
import Derived.Test.Qxb6600910aKey
import Derived.Test.Qxb6600910aCmp
namespace Go.Proofs.Qxb6600910a

/-- What is asked of a transform to have its key taken, its attributes' fields included. -/
def GoodA (a : Attr) : Prop := 0 ≤ a.ty ∧ a.ty ≤ 65535 ∧ a.val.length ≤ 1048576
def GoodT (t : Tr) : Prop := 0 ≤ t.ty ∧ t.ty ≤ 255 ∧ 0 ≤ t.id ∧ t.id ≤ 65535 ∧ t.ats.length ≤ 1048576 ∧ ∀ (i : Nat) (a : Attr), t.ats[i]? = some a → GoodA a

theorem be32_inj {a b : Nat} (ha : a ≤ 1048576) (hb : b ≤ 1048576) (h : be32 a = be32 b) : a = b := by
  simp only [be32, List.cons.injEq, and_true] at h
  omega
theorem be32_length (k : Int) : (be32 k).length = 4 := rfl

theorem keyA_inj {a b : Attr} {r s : List Int} (ha : GoodA a) (hb : GoodA b) (h : keyA a ++ r = keyA b ++ s) : a = b ∧ r = s := by
  obtain ⟨a1, a2, a3⟩ := ha
  obtain ⟨b1, b2, b3⟩ := hb
  unfold keyA at h
  simp only [List.append_assoc] at h
  have h0 := List.append_inj h (by rfl)
  obtain ⟨e0, h⟩ := h0
  simp only [List.cons.injEq, and_true] at e0
  have h1 := List.append_inj h (by rfl)
  obtain ⟨e1, h⟩ := h1
  have h2 := List.append_inj h (by rfl)
  obtain ⟨e2, h⟩ := h2
  have hl := be32_inj a3 b3 e2
  have h3 := List.append_inj h hl
  obtain ⟨e3, e4⟩ := h3
  have ety : a.ty = b.ty := by omega
  have etv : a.tv = b.tv := by
    simp only [List.cons.injEq, and_true] at e1
    cases h1 : a.tv <;> cases h2 : b.tv <;> simp [h1, h2] at e1 ⊢
  refine ⟨?_, e4⟩
  cases a; cases b
  simp only [Attr.mk.injEq]
  exact ⟨ety, etv, e3⟩

theorem flat_inj : ∀ (l m : List Attr), l.length = m.length → (∀ a ∈ l, GoodA a) → (∀ a ∈ m, GoodA a) → l.flatMap keyA = m.flatMap keyA → l = m
  | [], [], _, _, _, _ => rfl
  | [], _ :: _, h, _, _, _ => by simp at h
  | _ :: _, [], h, _, _, _ => by simp at h
  | a :: l, b :: m, hl, h1, h2, h => by
    simp only [List.flatMap_cons] at h
    obtain ⟨e, h'⟩ := keyA_inj (h1 a (by simp)) (h2 b (by simp)) h
    rw [e, flat_inj l m (by simpa using hl) (fun x hx => h1 x (by simp [hx])) (fun x hx => h2 x (by simp [hx])) h']

theorem good_mem {t : Tr} (h : GoodT t) : ∀ a ∈ t.ats, GoodA a := fun a ha => by
  obtain ⟨i, hi, rfl⟩ := List.getElem_of_mem ha
  exact h.2.2.2.2.2 i _ (List.getElem?_eq_getElem hi)

theorem keyOf_eq (t : Tr) : keyOf t = [t.ty, t.id / 256, t.id % 256] ++ (be32 t.ats.length ++ t.ats.flatMap keyA) := by
  unfold keyOf keyUp
  rw [List.take_length, List.append_assoc]

theorem keyOf_inj {t u : Tr} (ht : GoodT t) (hu : GoodT u) (h : keyOf t = keyOf u) : t = u := by
  rw [keyOf_eq, keyOf_eq] at h
  obtain ⟨e0, h⟩ := List.append_inj h rfl
  obtain ⟨e1, h⟩ := List.append_inj h rfl
  simp only [List.cons.injEq, and_true] at e0
  obtain ⟨t1, t2, t3, t4, t5, _⟩ := id ht
  obtain ⟨u1, u2, u3, u4, u5, _⟩ := id hu
  have hl := be32_inj t5 u5 e1
  have ea := flat_inj t.ats u.ats hl (good_mem ht) (good_mem hu) h
  have ety : t.ty = u.ty := by omega
  have eid : t.id = u.id := by omega
  cases t; cases u
  simp only [Tr.mk.injEq]
  exact ⟨ety, eid, ea⟩

theorem eqA_iff {a b : Attr} : eqA a b = true ↔ a = b := by
  constructor
  · intro h
    simp only [eqA, Bool.and_eq_true, beq_iff_eq] at h
    cases a; cases b
    simp only [Attr.mk.injEq]
    exact ⟨h.1.1, h.1.2, h.2⟩
  · intro h; subst h; simp [eqA]
theorem eqAs_eq : ∀ {l m : List Attr}, eqAs l m = true ↔ l = m
  | [], [] => by simp [eqAs]
  | [], _ :: _ => by simp [eqAs]
  | _ :: _, [] => by simp [eqAs]
  | a :: l, b :: m => by
    simp only [eqAs, Bool.and_eq_true, eqA_iff, eqAs_eq (l := l), List.cons.injEq]
theorem eqT_iff {t u : Tr} : eqT t u = true ↔ t = u := by
  constructor
  · intro h
    simp only [eqT, Bool.and_eq_true, beq_iff_eq, eqAs_eq] at h
    cases t; cases u
    simp only [Tr.mk.injEq]
    exact ⟨h.1.1, h.1.2, h.2⟩
  · intro h; subst h; simp [eqT, eqAs_eq]

theorem eqT_key {t u : Tr} (ht : GoodT t) (hu : GoodT u) : eqT t u = true ↔ keyOf t = keyOf u :=
  ⟨fun h => by rw [eqT_iff.1 h], fun h => eqT_iff.2 (keyOf_inj ht hu h)⟩

/-- What zzHoldsModel says, on plain data. -/
def modelP (l m : List Tr) : Bool := l.all (fun t => m.any (fun x => x.ty == t.ty)) && m.all (fun x => (l.map keyOf).contains (keyOf x))

theorem any_keys {l : List Tr} {x : Tr} (hl : ∀ t ∈ l, GoodT t) (hx : GoodT x) : l.any (fun t => eqT t x) = (l.map keyOf).contains (keyOf x) := by
  rw [Bool.eq_iff_iff, List.any_eq_true, List.contains_iff_mem, List.mem_map]
  constructor
  · rintro ⟨t, ht, h⟩; exact ⟨t, ht, (eqT_key (hl t ht) hx).1 h⟩
  · rintro ⟨t, ht, h⟩; exact ⟨t, ht, (eqT_key (hl t ht) hx).2 h⟩

theorem all_congr {α : Type} {l : List α} {p q : α → Bool} (h : ∀ x ∈ l, p x = q x) : l.all p = l.all q := by
  rw [Bool.eq_iff_iff, List.all_eq_true, List.all_eq_true]
  exact ⟨fun g x hx => (h x hx) ▸ g x hx, fun g x hx => (h x hx).symm ▸ g x hx⟩

/-- THE LAW. -/
theorem holds_model {l m : List Tr} (hl : ∀ t ∈ l, GoodT t) (hm : ∀ t ∈ m, GoodT t) : holdsP l m = modelP l m := by
  unfold holdsP modelP
  congr 1
  exact all_congr (fun x hx => any_keys hl (hm x hx))

/-! ### the order of the keys -/
theorem cmpL_neg : ∀ (l m : List Int), cmpL m l = - cmpL l m
  | [], [] => rfl
  | [], _ :: _ => rfl
  | _ :: _, [] => rfl
  | a :: l, b :: m => by
    simp only [cmpL]
    by_cases h : a = b
    · rw [if_pos h, if_pos h.symm, cmpL_neg l m]
    · rw [if_neg h, if_neg (fun g => h g.symm)]
      by_cases g : a < b
      · rw [if_pos g, if_neg (by omega)]; rfl
      · rw [if_neg g, if_pos (by omega)]

theorem cmpL_trans : ∀ {l m n : List Int}, cmpL l m ≤ 0 → cmpL m n ≤ 0 → cmpL l n ≤ 0
  | [], [], _, _, h => h
  | [], _ :: _, [], _, _ => by simp [cmpL]
  | [], _ :: _, _ :: _, _, _ => by simp [cmpL]
  | _ :: _, [], _, h, _ => by simp [cmpL] at h
  | _ :: _, _ :: _, [], _, h => by simp [cmpL] at h
  | a :: l, b :: m, c :: n, h1, h2 => by
    simp only [cmpL] at h1 h2 ⊢
    by_cases e1 : a = b
    · rw [if_pos e1] at h1
      by_cases e2 : b = c
      · rw [if_pos e2] at h2
        rw [if_pos (e1.trans e2)]
        exact cmpL_trans h1 h2
      · rw [if_neg e2] at h2
        rw [if_neg (fun g => e2 (e1.symm.trans g)), e1]
        exact h2
    · rw [if_neg e1] at h1
      have hab : a < b := by
        by_cases g : a < b
        · exact g
        · rw [if_neg g] at h1; omega
      by_cases e2 : b = c
      · rw [← e2, if_neg e1, if_pos hab]; omega
      · rw [if_neg e2] at h2
        have hbc : b < c := by
          by_cases g : b < c
          · exact g
          · rw [if_neg g] at h2; omega
        rw [if_neg (by omega), if_pos (by omega)]; omega
end Go.Proofs.Qxb6600910a
