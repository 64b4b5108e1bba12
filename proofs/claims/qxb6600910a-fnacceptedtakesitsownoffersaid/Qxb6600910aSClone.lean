/-
  slices.Clone at []wire.Transform (47), []wire.Attribute (48), []byte (49).
-/
import Derived.Test.Qxb6600910aWireP
import Derived.Test.Qxb6600910aKeyP
namespace Go.Proofs.Qxb6600910a
open Go.RowKit Go.ChangeShapes Go.WideShapes

/-- What a clone is: it owns the cells of its source, in a row from block B on. -/
def CloneOf (B : Nat) (e : TypeId) (size n : Nat) (news : List Value) (w' : World) (v : Value) : Prop := w'.ownsRow B e size v n news

theorem Try.info61' : (Try.prog.info? 61).map (fun i => (i.zero, i.size, i.bytes)) = some (some (.agg #[.int .u8 0, .int .u16 0, .slice none 0 0]), 3, 32) := by kernel_rfl
theorem Try.info66' : (Try.prog.info? 66).map (fun i => (i.zero, i.size, i.bytes)) = some (some (.agg #[.int .u16 0, .bool false, .slice none 0 0]), 3, 32) := by kernel_rfl

set_option maxRecDepth 100000 in
set_option maxHeartbeats 1000000 in
theorem clone47 (x : Addr) (n cap : Nat) (news : List Value) (w : World) (hl : news.length = n * 3) (hnews : ∀ j u, news[j]? = some u → w.cell? (x.add j) = some u) (h1 : ∀ u ∈ news, u.oneCell' = true) (hn : n ≤ 1048576) :
    Calls Try.prog 47 #[.slice (some x) n cap] w (Gives w (CloneOf w.heap.size 61 3 n news)) := by
  obtain ⟨i0, hi, hz0, hz1, hz2⟩ := info_parts Try.info61'
  have hnil := fun w a n c => Lib.run_eql_slice_nil (P := Try.prog) w 26 61 a n c 0 0 Try.underlying26
  have hown : (w.alloc (.cells #[] 61)).ownsRow w.heap.size 61 3 (.slice (some ⟨w.heap.size, 0, none⟩) 0 0) 0 [] := World.ownsRow_lit w #[] 0 (Nat.le_refl _) (Nat.zero_le _) rfl
  have H : Hid ((w.alloc (.cells #[] 61)).ownsRow w.heap.size 61 3 (.slice (some ⟨w.heap.size, 0, none⟩) 0 0) 0 [] ∧ (∀ j u, news[j]? = some u → (w.alloc (.cells #[] 61)).cell? (x.add j) = some u) ∧ (∀ u ∈ news, u.oneCell' = true) ∧ news.length = n * 3) :=
    ⟨hown, fun j u hj => keeps_alloc (fun _ => True) _ _ _ _ trivial (hnews j u hj), h1, hl⟩
  clear hown hnews h1 hl
  go_enter Try.func47, Try.ntmps47
  go_wp2_with (at_builtin; refine wpList_append_own_at _ (by rfl) (.tmp 5) (.tmp 6) 26 (by rfl) w.heap.size 61 i0 _ 3 32 Try.underlying26 hi hz0 hz1 hz2 rfl (by omega) (.slice (some ⟨w.heap.size, 0, none⟩) 0 0) 0 [] (by rfl) (by exact H.out.1) x n cap news (by rfl) H.out.2.2.2 (by exact H.out.2.1) H.out.2.2.1 (by unfold maxLen; omega) (by omega) (by simp) ?_; intro v1 w1 hown1 hgrow hn1 hat)
  have R : Hid (w1.ownsRow w.heap.size 61 3 v1 n news ∧ Below w.heap.size w w1) := by
    refine ⟨by simpa using hown1, ((Below.refl _ _).alloc (Nat.le_refl _) _).grown hgrow (by simp) (fun k hk => ?_)⟩
    simp [Value.ownBlock] at hk; omega
  clear hown1 hgrow hn1 hat
  go_wp2
  go_ret
  exact ⟨⟨_, rfl, R.out.1⟩, R.out.2⟩

set_option maxRecDepth 100000 in
set_option maxHeartbeats 1000000 in
theorem clone48 (x : Addr) (n cap : Nat) (news : List Value) (w : World) (hl : news.length = n * 3) (hnews : ∀ j u, news[j]? = some u → w.cell? (x.add j) = some u) (h1 : ∀ u ∈ news, u.oneCell' = true) (hn : n ≤ 1048576) :
    Calls Try.prog 48 #[.slice (some x) n cap] w (Gives w (CloneOf w.heap.size 66 3 n news)) := by
  obtain ⟨i0, hi, hz0, hz1, hz2⟩ := info_parts Try.info66'
  have hnil := fun w a n c => Lib.run_eql_slice_nil (P := Try.prog) w 59 66 a n c 0 0 Try.underlying59
  have hown : (w.alloc (.cells #[] 66)).ownsRow w.heap.size 66 3 (.slice (some ⟨w.heap.size, 0, none⟩) 0 0) 0 [] := World.ownsRow_lit w #[] 0 (Nat.le_refl _) (Nat.zero_le _) rfl
  have H : Hid ((w.alloc (.cells #[] 66)).ownsRow w.heap.size 66 3 (.slice (some ⟨w.heap.size, 0, none⟩) 0 0) 0 [] ∧ (∀ j u, news[j]? = some u → (w.alloc (.cells #[] 66)).cell? (x.add j) = some u) ∧ (∀ u ∈ news, u.oneCell' = true) ∧ news.length = n * 3) :=
    ⟨hown, fun j u hj => keeps_alloc (fun _ => True) _ _ _ _ trivial (hnews j u hj), h1, hl⟩
  clear hown hnews h1 hl
  go_enter Try.func48, Try.ntmps48
  go_wp2_with (at_builtin; refine wpList_append_own_at _ (by rfl) (.tmp 5) (.tmp 6) 59 (by rfl) w.heap.size 66 i0 _ 3 32 Try.underlying59 hi hz0 hz1 hz2 rfl (by omega) (.slice (some ⟨w.heap.size, 0, none⟩) 0 0) 0 [] (by rfl) (by exact H.out.1) x n cap news (by rfl) H.out.2.2.2 (by exact H.out.2.1) H.out.2.2.1 (by unfold maxLen; omega) (by omega) (by simp) ?_; intro v1 w1 hown1 hgrow hn1 hat)
  have R : Hid (w1.ownsRow w.heap.size 66 3 v1 n news ∧ Below w.heap.size w w1) := by
    refine ⟨by simpa using hown1, ((Below.refl _ _).alloc (Nat.le_refl _) _).grown hgrow (by simp) (fun k hk => ?_)⟩
    simp [Value.ownBlock] at hk; omega
  clear hown1 hgrow hn1 hat
  go_wp2
  go_ret
  exact ⟨⟨_, rfl, R.out.1⟩, R.out.2⟩

set_option maxRecDepth 100000 in
set_option maxHeartbeats 1000000 in
theorem clone49 (x : Addr) (n cap : Nat) (news : List Value) (w : World) (hl : news.length = n * 1) (hnews : ∀ j u, news[j]? = some u → w.cell? (x.add j) = some u) (h1 : ∀ u ∈ news, u.oneCell' = true) (hn : n ≤ 1048576) :
    Calls Try.prog 49 #[.slice (some x) n cap] w (Gives w (CloneOf w.heap.size 5 1 n news)) := by
  obtain ⟨i0, hi, hz0, hz1, hz2⟩ := info_parts Try.info5
  have hnil := fun w a n c => Lib.run_eql_slice_nil (P := Try.prog) w 33 5 a n c 0 0 Try.underlying33
  have hown : (w.alloc (.cells #[] 5)).ownsRow w.heap.size 5 1 (.slice (some ⟨w.heap.size, 0, none⟩) 0 0) 0 [] := World.ownsRow_lit w #[] 0 (Nat.le_refl _) (Nat.zero_le _) rfl
  have H : Hid ((w.alloc (.cells #[] 5)).ownsRow w.heap.size 5 1 (.slice (some ⟨w.heap.size, 0, none⟩) 0 0) 0 [] ∧ (∀ j u, news[j]? = some u → (w.alloc (.cells #[] 5)).cell? (x.add j) = some u) ∧ (∀ u ∈ news, u.oneCell' = true) ∧ news.length = n * 1) :=
    ⟨hown, fun j u hj => keeps_alloc (fun _ => True) _ _ _ _ trivial (hnews j u hj), h1, hl⟩
  clear hown hnews h1 hl
  go_enter Try.func49, Try.ntmps49
  go_wp2_with (at_builtin; refine wpList_append_own_at _ (by rfl) (.tmp 5) (.tmp 6) 33 (by rfl) w.heap.size 5 i0 _ 1 1 Try.underlying33 hi hz0 hz1 hz2 rfl (by omega) (.slice (some ⟨w.heap.size, 0, none⟩) 0 0) 0 [] (by rfl) (by exact H.out.1) x n cap news (by rfl) H.out.2.2.2 (by exact H.out.2.1) H.out.2.2.1 (by unfold maxLen; omega) (by omega) (by simp) ?_; intro v1 w1 hown1 hgrow hn1 hat)
  have R : Hid (w1.ownsRow w.heap.size 5 1 v1 n news ∧ Below w.heap.size w w1) := by
    refine ⟨by simpa using hown1, ((Below.refl _ _).alloc (Nat.le_refl _) _).grown hgrow (by simp) (fun k hk => ?_)⟩
    simp [Value.ownBlock] at hk; omega
  clear hown1 hgrow hn1 hat
  go_wp2
  go_ret
  exact ⟨⟨_, rfl, R.out.1⟩, R.out.2⟩

set_option maxHeartbeats 400000 in
theorem clone47_nil (w : World) : Calls Try.prog 47 #[.slice none 0 0] w fun e w' => e = .returned (.slice none 0 0) ∧ w = w' := by
  have hnil := fun w a n c => Lib.run_eql_slice_nil (P := Try.prog) w 26 61 a n c 0 0 Try.underlying26
  go_enter Try.func47, Try.ntmps47
  go_wp2
  go_ret
  exact ⟨rfl, rfl⟩

set_option maxHeartbeats 400000 in
theorem clone48_nil (w : World) : Calls Try.prog 48 #[.slice none 0 0] w fun e w' => e = .returned (.slice none 0 0) ∧ w = w' := by
  have hnil := fun w a n c => Lib.run_eql_slice_nil (P := Try.prog) w 59 66 a n c 0 0 Try.underlying59
  go_enter Try.func48, Try.ntmps48
  go_wp2
  go_ret
  exact ⟨rfl, rfl⟩

set_option maxHeartbeats 400000 in
theorem clone49_nil (w : World) : Calls Try.prog 49 #[.slice none 0 0] w fun e w' => e = .returned (.slice none 0 0) ∧ w = w' := by
  have hnil := fun w a n c => Lib.run_eql_slice_nil (P := Try.prog) w 33 5 a n c 0 0 Try.underlying33
  go_enter Try.func49, Try.ntmps49
  go_wp2
  go_ret
  exact ⟨rfl, rfl⟩

/-! ### what lies in blocks that are not frozen -/

/-- Blocks that p says, none of whose cells is frozen. -/
def OkF (p : Nat → Prop) (w : World) (b : Nat) : Prop := p b ∧ ∀ off, w.frozen? ⟨b, off, none⟩ = false

/-- Cells and marks of the blocks that p says are as they were. -/
def KeepsF (p : Nat → Prop) (w w' : World) : Prop := Keeps p w w' ∧ ∀ b off, p b → b < w.heap.size → w'.frozen? ⟨b, off, none⟩ = w.frozen? ⟨b, off, none⟩

theorem KeepsF.trans {p : Nat → Prop} {a b c : World} (h : KeepsF p a b) (k : KeepsF p b c) (hs : a.heap.size ≤ b.heap.size) : KeepsF p a c :=
  ⟨h.1.trans k.1, fun x off hp hx => (k.2 x off hp (Nat.lt_of_lt_of_le hx hs)).trans (h.2 x off hp hx)⟩
theorem keepsF_below {w w' : World} (p : Nat → Prop) (h : Below w.heap.size w w') : KeepsF p w w' := ⟨keeps_of_below p h, fun _ _ _ hb => h.frozen hb⟩
theorem keepsF_below_lt {B : Nat} {w w' : World} {p : Nat → Prop} (h : Below B w w') (hp : ∀ b, p b → b < B) : KeepsF p w w' := ⟨keeps_of_below_lt h hp, fun _ _ hb _ => h.frozen (hp _ hb)⟩
theorem keepsF_setCell (p : Nat → Prop) (w : World) (a : Addr) (u : Value) (h : ¬ p a.block) : KeepsF p w (w.setCell a u) :=
  ⟨keeps_setCell p w a u h, fun b _ hb _ => World.frozen?_of_block (w := w) (Below.heap_setCell w a u b (fun e => h (e ▸ hb)))⟩

theorem BytesIn.fkeep {p : Nat → Prop} {w w' : World} {v : Value} {l : List Int} (k : KeepsF p w w') (h : BytesIn (OkF p w) w v l) : BytesIn (OkF p w') w' v l :=
  BytesIn.keep (fun a x ha hx => k.1 a x ha.1 hx) (h.weak (fun b hb hlt => ⟨hb.1, fun off => (k.2 b off hb.1 hlt).trans (hb.2 off)⟩))
theorem AttrsIn.fkeep {p : Nat → Prop} {w w' : World} {v : Value} {l : List Attr} (k : KeepsF p w w') (h : AttrsIn (OkF p w) w v l) : AttrsIn (OkF p w') w' v l :=
  AttrsIn.keep (fun a x ha hx => k.1 a x ha.1 hx) (h.weak (fun b hb hlt => ⟨hb.1, fun off => (k.2 b off hb.1 hlt).trans (hb.2 off)⟩))
theorem TrsIn.fkeep {p : Nat → Prop} {w w' : World} {v : Value} {l : List Tr} (k : KeepsF p w w') (h : TrsIn (OkF p w) w v l) : TrsIn (OkF p w') w' v l :=
  TrsIn.keep (fun a x ha hx => k.1 a x ha.1 hx) (h.weak (fun b hb hlt => ⟨hb.1, fun off => (k.2 b off hb.1 hlt).trans (hb.2 off)⟩))

/-- What an owned row looks like. -/
theorem owns_form {w : World} {B : Nat} {e : TypeId} {size : Nat} {v : Value} {n : Nat} {xs : List Value} (h : w.ownsRow B e size v n xs) :
    (v = .slice none 0 0 ∧ n = 0) ∨ ∃ g cap, v = .slice (some ⟨g, 0, none⟩) n cap ∧ B ≤ g ∧ n ≤ cap ∧ cap ≤ maxLen ∧ ∃ f, w.rowIs g e (cap * size) f ∧ ∀ j u, xs[j]? = some u → f j = u := by
  obtain ⟨hl, h⟩ := h
  rcases h with h | ⟨g, cap, cur, hv, hb, hg, h1, h2, h3, h4⟩
  · exact .inl h
  · refine .inr ⟨g, cap, hv, hb, h1, h2, fun i => cur.getD i undef, ⟨cur, hg, h3, fun i hi => ?_⟩, fun j u hj => ?_⟩
    · simp [Array.getD, h3, hi]
    · have hj' := (List.getElem?_eq_some_iff.1 hj).1
      rw [← h4, List.getElem?_take_of_lt (by omega)] at hj
      simp only [Array.getElem?_toList] at hj
      simp [Array.getD_eq_getD_getElem?, hj]

/-- A clone of octets. -/
theorem clone49_bytes {ok : Nat → Prop} (v : Value) (bs : List Int) (w : World) (h : BytesIn ok w v bs) (hs : bs.length ≤ 1048576) :
    Calls Try.prog 49 #[v] w (Gives w (fun w' v' => BytesIn (OkF (fun b => w.heap.size ≤ b) w') w' v' bs)) := by
  rcases h with ⟨rfl, rfl⟩ | ⟨b, o, s, cap, rfl, h1, h2, h3⟩
  · exact (clone49_nil w).mono fun e w' ⟨he, hw⟩ => ⟨⟨_, he, .inl ⟨rfl, rfl⟩⟩, hw ▸ Below.refl _ _⟩
  · refine (clone49 ⟨b, o, s⟩ bs.length cap (bs.map (Value.int .u8)) w (by simp) (fun j u hj => ?_) (bytes_oneCell _) hs).mono fun e w' ⟨⟨v', he, hv⟩, hb⟩ => ⟨⟨v', he, ?_⟩, hb⟩
    · rw [List.getElem?_map, Option.map_eq_some_iff] at hj
      obtain ⟨n, hn, rfl⟩ := hj
      obtain ⟨rfl, _, hc, _⟩ := h3 j n hn
      rw [add_plain]; exact hc
    · rcases owns_form hv with ⟨e1, e2⟩ | ⟨g, c, rfl, hg, hc1, hc2, f, hrow, hf⟩
      · exact .inl ⟨e1, List.eq_nil_of_length_eq_zero e2⟩
      · refine .inr ⟨g, 0, none, c, rfl, hc1, hc2, fun i n hi => ⟨rfl, ⟨hg, fun off => hrow.frozen off⟩, ?_, (h3 i n hi).2.2.2⟩⟩
        have hlt := (List.getElem?_eq_some_iff.1 hi).1
        rw [Nat.zero_add, hrow.cell (by omega), hf i _ (by rw [List.getElem?_map, hi]; rfl)]

end Go.Proofs.Qxb6600910a
