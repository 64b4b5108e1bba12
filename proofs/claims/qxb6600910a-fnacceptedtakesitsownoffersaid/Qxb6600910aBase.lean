/-
  The plain data of the law file, and how they lie in memory. Nothing of the program's text but its model is used here.
-/
import Derived.Test.Qxb6600910aProg
import Derived.WalkKit
namespace Go.Proofs.Qxb6600910a
open Go.RowKit

/-- An attribute, as plain data. -/
structure Attr where
  ty : Int
  tv : Bool
  val : List Int

/-- A transform, as plain data. -/
structure Tr where
  ty : Int
  id : Int
  ats : List Attr

/-- The slice value v leads, in w, to the octets bs; each block on the way is one that ok says. -/
def BytesIn (ok : Nat → Prop) (w : World) (v : Value) (bs : List Int) : Prop :=
  (v = .slice none 0 0 ∧ bs = []) ∨
  ∃ b o s cap, v = .slice (some ⟨b, o, s⟩) bs.length cap ∧ bs.length ≤ cap ∧ cap ≤ maxLen ∧
    ∀ i n, bs[i]? = some n → s = none ∧ ok b ∧ w.cell? ⟨b, o + i, none⟩ = some (.int .u8 n) ∧ 0 ≤ n ∧ n ≤ 255

/-- The slice value v leads, in w, to the attributes l (three cells each). -/
def AttrsIn (ok : Nat → Prop) (w : World) (v : Value) (l : List Attr) : Prop :=
  (v = .slice none 0 0 ∧ l = []) ∨
  ∃ b o s cap, v = .slice (some ⟨b, o, s⟩) l.length cap ∧ l.length ≤ cap ∧ cap ≤ maxLen ∧
    ∀ i a, l[i]? = some a → s = none ∧ ok b ∧ w.cell? ⟨b, o + i * 3, none⟩ = some (.int .u16 a.ty) ∧
      w.cell? ⟨b, o + i * 3 + 1, none⟩ = some (.bool a.tv) ∧ 0 ≤ a.ty ∧ a.ty ≤ 65535 ∧
      ∃ u, w.cell? ⟨b, o + i * 3 + 2, none⟩ = some u ∧ BytesIn ok w u a.val

/-- The slice value v leads, in w, to the transforms l (three cells each). -/
def TrsIn (ok : Nat → Prop) (w : World) (v : Value) (l : List Tr) : Prop :=
  (v = .slice none 0 0 ∧ l = []) ∨
  ∃ b o s cap, v = .slice (some ⟨b, o, s⟩) l.length cap ∧ l.length ≤ cap ∧ cap ≤ maxLen ∧
    ∀ i t, l[i]? = some t → s = none ∧ ok b ∧ w.cell? ⟨b, o + i * 3, none⟩ = some (.int .u8 t.ty) ∧
      w.cell? ⟨b, o + i * 3 + 1, none⟩ = some (.int .u16 t.id) ∧ 0 ≤ t.ty ∧ t.ty ≤ 255 ∧ 0 ≤ t.id ∧ t.id ≤ 65535 ∧
      ∃ u, w.cell? ⟨b, o + i * 3 + 2, none⟩ = some u ∧ AttrsIn ok w u t.ats

/-- No cell of a block that ok says has turned. -/
def Keeps (ok : Nat → Prop) (w w' : World) : Prop := ∀ a v, ok a.block → w.cell? a = some v → w'.cell? a = some v

theorem Keeps.refl (ok : Nat → Prop) (w : World) : Keeps ok w w := fun _ _ _ h => h
theorem Keeps.trans {ok : Nat → Prop} {a b c : World} (h : Keeps ok a b) (k : Keeps ok b c) : Keeps ok a c := fun x v o hx => k x v o (h x v o hx)

theorem cell_lt {w : World} {a : Addr} {v : Value} (h : w.cell? a = some v) : a.block < w.heap.size := by
  unfold World.cell? at h
  split at h
  · rename_i heq
    exact (Array.getElem?_eq_some_iff.1 heq).1
  · cases h

theorem keeps_of_below {w w' : World} (ok : Nat → Prop) (h : Below w.heap.size w w') : Keeps ok w w' := fun a v _ hv => by
  rw [h.cell (cell_lt hv)]; exact hv

theorem keeps_of_below_lt {B : Nat} {w w' : World} {ok : Nat → Prop} (h : Below B w w') (hk : ∀ b, ok b → b < B) : Keeps ok w w' := fun a v ho hv => by
  rw [h.cell (hk _ ho)]; exact hv

/-- A store into a block that ok does not say. -/
theorem keeps_setCell (ok : Nat → Prop) (w : World) (p : Addr) (u : Value) (h : ¬ ok p.block) : Keeps ok w (w.setCell p u) := fun a v ho hv => by
  have hne : a.block ≠ p.block := fun e => h (e ▸ ho)
  rw [World.cell?_of_block (w := w) (Below.heap_setCell w p u a.block hne)]; exact hv

theorem keeps_alloc (ok : Nat → Prop) (w : World) (o : Obj) : Keeps ok w (w.alloc o) := fun a v _ hv => by
  rw [World.cell?_of_block (w := w) (Below.heap_alloc w o a.block (cell_lt hv))]; exact hv

theorem BytesIn.keep {ok : Nat → Prop} {w w' : World} {v : Value} {bs : List Int} (k : Keeps ok w w') (h : BytesIn ok w v bs) : BytesIn ok w' v bs := by
  rcases h with h | ⟨b, o, s, cap, hv, h1, h2, h3⟩
  · exact .inl h
  · refine .inr ⟨b, o, s, cap, hv, h1, h2, fun i n hi => ?_⟩
    obtain ⟨e, g, c0, r⟩ := h3 i n hi
    exact ⟨e, g, k _ _ g c0, r⟩

theorem AttrsIn.keep {ok : Nat → Prop} {w w' : World} {v : Value} {l : List Attr} (k : Keeps ok w w') (h : AttrsIn ok w v l) : AttrsIn ok w' v l := by
  rcases h with h | ⟨b, o, s, cap, hv, h1, h2, h3⟩
  · exact .inl h
  · refine .inr ⟨b, o, s, cap, hv, h1, h2, fun i n hi => ?_⟩
    obtain ⟨e, g, c0, c1, r0, r1, u, c2, hu⟩ := h3 i n hi
    exact ⟨e, g, k _ _ g c0, k _ _ g c1, r0, r1, u, k _ _ g c2, hu.keep k⟩

theorem TrsIn.keep {ok : Nat → Prop} {w w' : World} {v : Value} {l : List Tr} (k : Keeps ok w w') (h : TrsIn ok w v l) : TrsIn ok w' v l := by
  rcases h with h | ⟨b, o, s, cap, hv, h1, h2, h3⟩
  · exact .inl h
  · refine .inr ⟨b, o, s, cap, hv, h1, h2, fun i n hi => ?_⟩
    obtain ⟨e, g, c0, c1, r0, r1, r2, r3, u, c2, hu⟩ := h3 i n hi
    exact ⟨e, g, k _ _ g c0, k _ _ g c1, r0, r1, r2, r3, u, k _ _ g c2, hu.keep k⟩

/-- Fewer blocks are asked for. -/
theorem BytesIn.weak {ok ok' : Nat → Prop} {w : World} {v : Value} {bs : List Int} (k : ∀ b, ok b → b < w.heap.size → ok' b) (h : BytesIn ok w v bs) : BytesIn ok' w v bs := by
  rcases h with h | ⟨b, o, s, cap, hv, h1, h2, h3⟩
  · exact .inl h
  · refine .inr ⟨b, o, s, cap, hv, h1, h2, fun i n hi => ?_⟩
    obtain ⟨e, g, c0, r⟩ := h3 i n hi
    exact ⟨e, k _ g (cell_lt c0), c0, r⟩

theorem AttrsIn.weak {ok ok' : Nat → Prop} {w : World} {v : Value} {l : List Attr} (k : ∀ b, ok b → b < w.heap.size → ok' b) (h : AttrsIn ok w v l) : AttrsIn ok' w v l := by
  rcases h with h | ⟨b, o, s, cap, hv, h1, h2, h3⟩
  · exact .inl h
  · refine .inr ⟨b, o, s, cap, hv, h1, h2, fun i n hi => ?_⟩
    obtain ⟨e, g, c0, c1, r0, r1, u, c2, hu⟩ := h3 i n hi
    exact ⟨e, k _ g (cell_lt c0), c0, c1, r0, r1, u, c2, hu.weak k⟩

theorem TrsIn.weak {ok ok' : Nat → Prop} {w : World} {v : Value} {l : List Tr} (k : ∀ b, ok b → b < w.heap.size → ok' b) (h : TrsIn ok w v l) : TrsIn ok' w v l := by
  rcases h with h | ⟨b, o, s, cap, hv, h1, h2, h3⟩
  · exact .inl h
  · refine .inr ⟨b, o, s, cap, hv, h1, h2, fun i n hi => ?_⟩
    obtain ⟨e, g, c0, c1, r0, r1, r2, r3, u, c2, hu⟩ := h3 i n hi
    exact ⟨e, k _ g (cell_lt c0), c0, c1, r0, r1, r2, r3, u, c2, hu.weak k⟩

theorem BytesIn.form {ok : Nat → Prop} {w : World} {v : Value} {l : List Int} (h : BytesIn ok w v l) : ∃ a cap, v = .slice a l.length cap ∧ l.length ≤ cap ∧ cap ≤ maxLen := by
  rcases h with ⟨hv, rfl⟩ | ⟨b, o, s, cap, hv, h1, h2, _⟩
  · exact ⟨none, 0, hv, Nat.le_refl _, Nat.zero_le _⟩
  · exact ⟨_, cap, hv, h1, h2⟩

theorem AttrsIn.form {ok : Nat → Prop} {w : World} {v : Value} {l : List Attr} (h : AttrsIn ok w v l) : ∃ a cap, v = .slice a l.length cap ∧ l.length ≤ cap ∧ cap ≤ maxLen := by
  rcases h with ⟨hv, rfl⟩ | ⟨b, o, s, cap, hv, h1, h2, _⟩
  · exact ⟨none, 0, hv, Nat.le_refl _, Nat.zero_le _⟩
  · exact ⟨_, cap, hv, h1, h2⟩

theorem TrsIn.form {ok : Nat → Prop} {w : World} {v : Value} {l : List Tr} (h : TrsIn ok w v l) : ∃ a cap, v = .slice a l.length cap ∧ l.length ≤ cap ∧ cap ≤ maxLen := by
  rcases h with ⟨hv, rfl⟩ | ⟨b, o, s, cap, hv, h1, h2, _⟩
  · exact ⟨none, 0, hv, Nat.le_refl _, Nat.zero_le _⟩
  · exact ⟨_, cap, hv, h1, h2⟩

/-- Octet i of a slice at hand: its address and its cell. -/
theorem BytesIn.at {ok : Nat → Prop} {w : World} {a : Option Addr} {len cap : Nat} {l : List Int} (h : BytesIn ok w (.slice a len cap) l) {i : Nat} (hi : i < len) :
    ∃ b o n, a = some ⟨b, o, none⟩ ∧ l[i]? = some n ∧ ok b ∧ w.cell? ⟨b, o + i, none⟩ = some (.int .u8 n) ∧ 0 ≤ n ∧ n ≤ 255 := by
  rcases h with ⟨hv, rfl⟩ | ⟨b, o, s, c, hv, h1, h2, h3⟩
  · injection hv; omega
  · injection hv with e1 e2 e3
    have hl : l[i]? = some (l[i]'(by omega)) := List.getElem?_eq_getElem (by omega)
    obtain ⟨e, c0⟩ := h3 i _ hl
    exact ⟨b, o, _, by rw [e1, e], hl, c0⟩

theorem AttrsIn.at {ok : Nat → Prop} {w : World} {a : Option Addr} {len cap : Nat} {l : List Attr} (h : AttrsIn ok w (.slice a len cap) l) {i : Nat} (hi : i < len) :
    ∃ b o x u, a = some ⟨b, o, none⟩ ∧ l[i]? = some x ∧ ok b ∧ w.cell? ⟨b, o + i * 3, none⟩ = some (.int .u16 x.ty) ∧
      w.cell? ⟨b, o + i * 3 + 1, none⟩ = some (.bool x.tv) ∧ w.cell? ⟨b, o + i * 3 + 2, none⟩ = some u ∧ BytesIn ok w u x.val ∧ 0 ≤ x.ty ∧ x.ty ≤ 65535 := by
  rcases h with ⟨hv, rfl⟩ | ⟨b, o, s, c, hv, h1, h2, h3⟩
  · injection hv; omega
  · injection hv with e1 e2 e3
    have hl : l[i]? = some (l[i]'(by omega)) := List.getElem?_eq_getElem (by omega)
    obtain ⟨e, g, c0, c1, r0, r1, u, c2, hu⟩ := h3 i _ hl
    exact ⟨b, o, _, u, by rw [e1, e], hl, g, c0, c1, c2, hu, r0, r1⟩

theorem TrsIn.at {ok : Nat → Prop} {w : World} {a : Option Addr} {len cap : Nat} {l : List Tr} (h : TrsIn ok w (.slice a len cap) l) {i : Nat} (hi : i < len) :
    ∃ b o x u, a = some ⟨b, o, none⟩ ∧ l[i]? = some x ∧ ok b ∧ w.cell? ⟨b, o + i * 3, none⟩ = some (.int .u8 x.ty) ∧
      w.cell? ⟨b, o + i * 3 + 1, none⟩ = some (.int .u16 x.id) ∧ w.cell? ⟨b, o + i * 3 + 2, none⟩ = some u ∧ AttrsIn ok w u x.ats ∧
      0 ≤ x.ty ∧ x.ty ≤ 255 ∧ 0 ≤ x.id ∧ x.id ≤ 65535 := by
  rcases h with ⟨hv, rfl⟩ | ⟨b, o, s, c, hv, h1, h2, h3⟩
  · injection hv; omega
  · injection hv with e1 e2 e3
    have hl : l[i]? = some (l[i]'(by omega)) := List.getElem?_eq_getElem (by omega)
    obtain ⟨e, g, c0, c1, r0, r1, r2, r3, u, c2, hu⟩ := h3 i _ hl
    exact ⟨b, o, _, u, by rw [e1, e], hl, g, c0, c1, c2, hu, r0, r1, r2, r3⟩

theorem BytesIn.len {ok : Nat → Prop} {w : World} {a : Option Addr} {len cap : Nat} {l : List Int} (h : BytesIn ok w (.slice a len cap) l) : len = l.length ∧ len ≤ cap ∧ cap ≤ maxLen := by
  obtain ⟨a', c', e, h1, h2⟩ := h.form
  injection e with e1 e2 e3
  subst e3; subst e2; exact ⟨rfl, h1, h2⟩

theorem AttrsIn.len {ok : Nat → Prop} {w : World} {a : Option Addr} {len cap : Nat} {l : List Attr} (h : AttrsIn ok w (.slice a len cap) l) : len = l.length ∧ len ≤ cap ∧ cap ≤ maxLen := by
  obtain ⟨a', c', e, h1, h2⟩ := h.form
  injection e with e1 e2 e3
  subst e3; subst e2; exact ⟨rfl, h1, h2⟩

theorem TrsIn.len {ok : Nat → Prop} {w : World} {a : Option Addr} {len cap : Nat} {l : List Tr} (h : TrsIn ok w (.slice a len cap) l) : len = l.length ∧ len ≤ cap ∧ cap ≤ maxLen := by
  obtain ⟨a', c', e, h1, h2⟩ := h.form
  injection e with e1 e2 e3
  subst e3; subst e2; exact ⟨rfl, h1, h2⟩

theorem BytesIn.nil {ok : Nat → Prop} {w : World} {len cap : Nat} {l : List Int} (h : BytesIn ok w (.slice none len cap) l) : l = [] := by
  rcases h with ⟨_, h⟩ | ⟨b, o, s, c, h, _⟩
  · exact h
  · cases h
theorem AttrsIn.nil {ok : Nat → Prop} {w : World} {len cap : Nat} {l : List Attr} (h : AttrsIn ok w (.slice none len cap) l) : l = [] := by
  rcases h with ⟨_, h⟩ | ⟨b, o, s, c, h, _⟩
  · exact h
  · cases h
theorem TrsIn.nil {ok : Nat → Prop} {w : World} {len cap : Nat} {l : List Tr} (h : TrsIn ok w (.slice none len cap) l) : l = [] := by
  rcases h with ⟨_, h⟩ | ⟨b, o, s, c, h, _⟩
  · exact h
  · cases h

theorem BytesIn.range {ok : Nat → Prop} {w : World} {v : Value} {bs : List Int} (h : BytesIn ok w v bs) : ∀ (i : Nat) (n : Int), bs[i]? = some n → 0 ≤ n ∧ n ≤ 255 := by
  rcases h with ⟨_, rfl⟩ | ⟨b, o, s, cap, _, _, _, h3⟩
  · intro i n h; simp at h
  · intro i n hi; exact (h3 i n hi).2.2.2

end Go.Proofs.Qxb6600910a
