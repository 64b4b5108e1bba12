/-
  A slice of octets that a call builds by append: what is known of it, and of what else lies in memory.
-/
import Derived.Test.Qxb6600910aClone
import Derived.Deep.AppendLies
import Derived.Laws.AppendOwnNone
import Derived.ChangeSlices
namespace Go.Proofs.Qxb6600910a
open Go.RowKit Go.ChangeShapes Go.WideShapes

/-- The slice value v owns the octets bs, in a row from block B on. -/
def OwnB (w : World) (B : Nat) (v : Value) (bs : List Int) : Prop := w.ownsRow B 5 1 v bs.length (bs.map (Value.int .u8)) ∧ 0 < bs.length

/-- w' is w but for v's own row and new blocks; v' lies in v's row or in a new one. -/
def Grows (w w' : World) (v v' : Value) : Prop := w.grownBy w' v.ownBlock ∧ (v'.ownBlock = v.ownBlock ∨ ∃ g, v'.ownBlock = some g ∧ w.heap.size ≤ g)

theorem Grows.refl (w : World) (v : Value) : Grows w w v v := ⟨⟨rfl, rfl, rfl, Nat.le_refl _, fun _ _ _ => rfl⟩, .inl rfl⟩
theorem Grows.trans {w w' w'' : World} {v v' v'' : Value} (h : Grows w w' v v') (k : Grows w' w'' v' v'') : Grows w w'' v v'' := by
  obtain ⟨h1, h2⟩ := h
  obtain ⟨k1, k2⟩ := k
  refine ⟨⟨k1.os.trans h1.os, k1.tape.trans h1.tape, k1.output.trans h1.output, Nat.le_trans h1.size k1.size, fun i hi hne => ?_⟩, ?_⟩
  · rw [k1.block i (Nat.lt_of_lt_of_le hi h1.size) ?_, h1.block i hi hne]
    rcases h2 with h2 | ⟨g, h2, hg⟩
    · rw [h2]; exact hne
    · rw [h2]; intro e; injection e with e; omega
  · rcases k2 with k2 | ⟨g, k2, hg⟩
    · rw [k2]; exact h2
    · exact .inr ⟨g, k2, Nat.le_trans h1.size hg⟩
theorem Grows.alloc {w w' : World} {v v' : Value} (h : Grows w w' v v') (o : Obj) : Grows w (w'.alloc o) v v' :=
  h.trans ⟨World.grownBy_alloc _ _ _, .inl rfl⟩
theorem Grows.drew {w w' : World} {v v' : Value} (h : Grows w w' v v') : Grows w w'.drew v v' := ⟨⟨h.1.os, h.1.tape, h.1.output, h.1.size, h.1.block⟩, h.2⟩

theorem Grows.cell {w w' : World} {v v' : Value} (h : Grows w w' v v') {a : Addr} {x : Value} (hx : w.cell? a = some x) (hne : v.ownBlock ≠ some a.block) : w'.cell? a = some x :=
  h.1.cell hx (fun e => hne e.symm)

theorem Grows.keeps {w w' : World} {v v' : Value} (h : Grows w w' v v') {ok : Nat → Prop} (hne : ∀ g, v.ownBlock = some g → ¬ ok g) : Keeps ok w w' := fun _ _ ha hx =>
  h.cell hx (fun e => hne _ e ha)

/-- What lay below is as it was. -/
theorem Grows.below {w w' : World} {v v' : Value} {B : Nat} (h : Grows w w' v v') (hB : B ≤ w.heap.size) (hv : ∀ g, v.ownBlock = some g → B ≤ g) : Below B w w' :=
  (Below.refl _ _).grown h.1 hB hv

theorem OwnB.alloc {w : World} {B : Nat} {v : Value} {bs : List Int} (h : OwnB w B v bs) (o : Obj) : OwnB (w.alloc o) B v bs := ⟨h.1.alloc o, h.2⟩

theorem OwnB.form {w : World} {B : Nat} {v : Value} {bs : List Int} (h : OwnB w B v bs) : ∃ g cap, v = .slice (some ⟨g, 0, none⟩) bs.length cap ∧ B ≤ g ∧ g < w.heap.size ∧ bs.length ≤ cap ∧ cap ≤ maxLen := by
  obtain ⟨h, hn⟩ := h
  rcases h.2 with ⟨_, h0⟩ | ⟨g, cap, cur, hv, hb, hg, h1, h2, _⟩
  · omega
  · exact ⟨g, cap, hv, hb, (Array.getElem?_eq_some_iff.1 hg).1, h1, h2⟩

theorem OwnB.bytes {w : World} {B : Nat} {v : Value} {bs : List Int} (h : OwnB w B v bs) (hr : ∀ n ∈ bs, 0 ≤ n ∧ n ≤ 255) : BytesIn (fun b => B ≤ b) w v bs := by
  obtain ⟨g, cap, rfl, hB, _, h1, h2⟩ := h.form
  refine .inr ⟨g, 0, none, cap, rfl, h1, h2, fun i n hi => ⟨rfl, hB, ?_, hr n (List.mem_of_getElem? hi)⟩⟩
  have hlt := (List.getElem?_eq_some_iff.1 hi).1
  have := h.1.cellAt i (by omega)
  rw [Nat.zero_add, this]
  simp [hi]

theorem bytes_oneCell (bs : List Int) : ∀ u ∈ bs.map (Value.int .u8), u.oneCell' = true := by
  intro u hu
  obtain ⟨n, _, rfl⟩ := List.mem_map.1 hu
  rfl

/-- A literal slice of octets, just laid. -/
theorem bytesIn_new (w : World) (ns : List Int) (hr : ∀ n ∈ ns, 0 ≤ n ∧ n ≤ 255) (hm : ns.length ≤ maxLen) : BytesIn (fun b => b = w.heap.size) (w.alloc (.cells (ns.map (Value.int .u8)).toArray 5)) (.slice (some ⟨w.heap.size, 0, none⟩) ns.length ns.length) ns := by
  refine .inr ⟨_, 0, none, ns.length, rfl, Nat.le_refl _, hm, fun i n hi => ⟨rfl, rfl, ?_, hr n (List.mem_of_getElem? hi)⟩⟩
  rw [Nat.zero_add, cell_of_row _ w.heap.size i _ 5 (0, 0) (heap_alloc_new w _)]
  simp [hi]

theorem ownB_new (w : World) (B : Nat) (ns : List Int) (h0 : 0 < ns.length) (hm : ns.length ≤ maxLen) (hB : B ≤ w.heap.size) : OwnB (w.alloc (.cells (ns.map (Value.int .u8)).toArray 5)) B (.slice (some ⟨w.heap.size, 0, none⟩) ns.length ns.length) ns := by
  refine ⟨⟨by simp, .inr ⟨w.heap.size, ns.length, _, rfl, hB, heap_alloc_new w _, Nat.le_refl _, hm, by simp, ?_⟩⟩, h0⟩
  rw [List.take_of_length_le (by simp)]

/-- 'append(b, ns...)' onto an owned slice, whatever the source. -/
theorem wpList_append_B {w : World} {ops : Array Oper} {rest : List Oper} {o : Oper} {a : Act} {Q : Exit → Act → World → Prop} (hgd : o.guard = none) (s x : Operand)
    (ho : o.op = .call { callee := .builtin .append, args := #[s, x], argTypes := #[33, 33] })
    (B : Nat) (v : Value) (bs : List Int) (hs : a.eval s = v) (hown : OwnB w B v bs) {ok : Nat → Prop} (y : Value) (ns : List Int) (hx : a.eval x = y) (hy : BytesIn ok w y ns)
    (hlen : bs.length + ns.length ≤ 140737488355328) (hB : B ≤ w.heap.size)
    (h : ∀ v' w', OwnB w' B v' (bs ++ ns) → Grows w w' v v' → wpList Try.prog ops Q rest (a.put o.dst v') w') : wpList Try.prog ops Q (o :: rest) a w := by
  obtain ⟨i0, hi, hz0, hz1, hz2⟩ := info_parts Try.info5
  rcases hy with ⟨rfl, rfl⟩ | ⟨b, off, sp, cap, rfl, h1, h2, h3⟩
  · refine wpList_append_own_none hgd s x 33 ho B 5 i0 1 Try.underlying33 hi v bs.length (bs.map (Value.int .u8)) hs hown.1 hx ?_
    exact h v w (by rw [List.append_nil]; exact hown) (Grows.refl w v)
  · refine wpList_append_own_at w hgd s x 33 ho B 5 i0 (.int .u8 0) 1 1 Try.underlying33 hi hz0 hz1 hz2 rfl (by omega) v bs.length (bs.map (Value.int .u8)) hs hown.1 ⟨b, off, sp⟩ ns.length cap (ns.map (Value.int .u8)) hx (by simp) (fun j u hu => ?_) (bytes_oneCell _) (by unfold maxLen; omega) (by omega) hB (fun v' w' k1 k2 _ k4 => h v' w' ⟨?_, ?_⟩ ⟨k2, ?_⟩)
    · rw [List.getElem?_map, Option.map_eq_some_iff] at hu
      obtain ⟨n, hn, rfl⟩ := hu
      obtain ⟨rfl, _, hc, _⟩ := h3 j n hn
      rw [add_plain]; exact hc
    · rw [List.length_append, List.map_append]; exact k1
    · have := hown.2; rw [List.length_append]; omega
    · rcases k4 with k4 | k4
      · exact .inl k4
      · exact .inr ⟨_, k4, Nat.le_refl _⟩

end Go.Proofs.Qxb6600910a
