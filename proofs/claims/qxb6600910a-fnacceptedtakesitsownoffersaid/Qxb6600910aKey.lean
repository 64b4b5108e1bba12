/-
  zzPut32, zzKey.
-/
import Derived.Test.Qxb6600910aKeyP
import Derived.Test.Qxb6600910aBytes
namespace Go.Proofs.Qxb6600910a
open Go.RowKit

/-- Four octets, for 0 ≤ k ≤ 1 << 20. -/
def be32 (k : Int) : List Int := [k / 16777216, k / 65536, k / 256 % 256, k % 256]

/-- Behind an append onto an owned slice. -/
theorem OwnB.more {w : World} {B g cap m : Nat} {bs ns : List Int} (h : w.ownsRow B 5 1 (.slice (some ⟨g, 0, none⟩) (bs.length + m) cap) (bs.length + m) (bs.map (Value.int .u8) ++ ns.map (Value.int .u8))) (hm : ns.length = m) (h0 : 0 < m) :
    OwnB w B (.slice (some ⟨g, 0, none⟩) (bs.length + m) cap) (bs ++ ns) := by
  refine ⟨?_, by rw [List.length_append]; omega⟩
  rw [List.length_append, hm, List.map_append]
  exact h

theorem grows_of_lies {w w' : World} {v : Value} {g n cap H : Nat} (hg : w.grownBy w' v.ownBlock) (hat : v.ownBlock = some g ∨ g = H) (hH : w.heap.size = H) : Grows w w' v (.slice (some ⟨g, 0, none⟩) n cap) := by
  refine ⟨hg, ?_⟩
  rcases hat with h | h
  · exact .inl h.symm
  · exact .inr ⟨g, rfl, by omega⟩

set_option maxRecDepth 100000 in
set_option maxHeartbeats 1000000 in
theorem put46 (B : Nat) (v : Value) (bs : List Int) (k : Int) (w : World) (h : OwnB w B v bs) (hB : B ≤ w.heap.size) (hlen : bs.length ≤ 70368744177664) (h0 : 0 ≤ k) (h1 : k ≤ 1048576) :
    Calls Try.prog 46 #[v, .int .i64 k] w fun e w' => ∃ v', e = .returned v' ∧ OwnB w' B v' (bs ++ be32 k) ∧ Grows w w' v v' := by
  obtain ⟨g, cap, rfl, hg, _⟩ := h.form
  obtain ⟨i0, hi, hz0, hz1, hz2⟩ := info_parts Try.info5
  have H : Hid (w.ownsRow B 5 1 (.slice (some ⟨g, 0, none⟩) bs.length cap) bs.length (bs.map (Value.int .u8))) := h.1
  clear h
  go_enter Try.func46, Try.ntmps46
  go_wp2_with (at_builtin; refine wpList_append_lies _ (by rfl) (.tmp 5) (.tmp 17) 33 (by rfl) B 5 i0 (.int .u8 0) 1 1 Try.underlying33 hi hz0 hz1 hz2 rfl (by omega) (.slice (some ⟨g, 0, none⟩) bs.length cap) bs.length (bs.map (Value.int .u8)) (by rfl) (by exact H.out.alloc _) ⟨w.heap.size, 0, none⟩ 4 4 ((be32 k).map (Value.int .u8)) (by rfl) rfl (by exact World.news_of_block (heap_alloc_new w _)) (bytes_oneCell _) (by omega) (by unfold maxLen; omega) (by omega) (by simp; omega) (w.heap.size + 1) (by simp) ?_; intro g1 cap1 w1 hown hgrow hat hlt)
  have R : Hid (OwnB w1 B (.slice (some ⟨g1, 0, none⟩) (bs.length + 4) cap1) (bs ++ be32 k) ∧ Grows w w1 (.slice (some ⟨g, 0, none⟩) bs.length cap) (.slice (some ⟨g1, 0, none⟩) (bs.length + 4) cap1)) :=
    ⟨OwnB.more hown rfl (by omega), ((Grows.refl w _).alloc _).trans (grows_of_lies hgrow hat (by simp))⟩
  clear hown hgrow hat hlt
  go_wp2
  go_ret
  exact ⟨_, rfl, R.out.1, R.out.2⟩
def keyA (a : Attr) : List Int := [a.ty / 256, a.ty % 256] ++ [if a.tv then 1 else 0] ++ be32 a.val.length ++ a.val
/-- The key behind the first k attributes. -/
def keyUp (t : Tr) (k : Nat) : List Int := [t.ty, t.id / 256, t.id % 256] ++ be32 t.ats.length ++ (t.ats.take k).flatMap keyA
def keyOf (t : Tr) : List Int := keyUp t t.ats.length

theorem keyUp_succ {t : Tr} {k : Nat} {a : Attr} (h : t.ats[k]? = some a) : keyUp t (k + 1) = keyUp t k ++ [a.ty / 256, a.ty % 256] ++ [if a.tv then 1 else 0] ++ be32 a.val.length ++ a.val := by
  have hk := (List.getElem?_eq_some_iff.1 h)
  obtain ⟨hlt, he⟩ := hk
  unfold keyUp
  rw [List.take_succ_eq_append_getElem hlt, he, List.flatMap_append]
  simp [keyA, List.append_assoc]

theorem keyUp_len {t : Tr} (hs : SmallT t) : ∀ k, k ≤ t.ats.length → (keyUp t k).length ≤ 7 + k * 1048583
  | 0, _ => by simp [keyUp, be32]
  | k + 1, hk => by
    have h := List.getElem?_eq_getElem (l := t.ats) (i := k) (by omega)
    rw [keyUp_succ h]
    have ih := keyUp_len hs k (by omega)
    have := hs.2 k _ h
    simp only [List.length_append, List.length_cons, List.length_nil, be32]
    omega

theorem be32_range {k : Int} (h0 : 0 ≤ k) (h1 : k ≤ 1048576) : ∀ n ∈ be32 k, 0 ≤ n ∧ n ≤ 255 := by
  intro n hn
  simp [be32] at hn
  omega

theorem keyUp_range {t : Tr} (hs : SmallT t) (ht : 0 ≤ t.ty ∧ t.ty ≤ 255 ∧ 0 ≤ t.id ∧ t.id ≤ 65535) (ha : ∀ (i : Nat) (a : Attr), t.ats[i]? = some a → (0 ≤ a.ty ∧ a.ty ≤ 65535) ∧ ∀ n ∈ a.val, 0 ≤ n ∧ n ≤ 255) :
    ∀ k, k ≤ t.ats.length → ∀ n ∈ keyUp t k, 0 ≤ n ∧ n ≤ 255
  | 0, _ => by
    intro n hn
    simp only [keyUp, List.take_zero, List.flatMap_nil, List.append_nil, List.mem_append] at hn
    rcases hn with hn | hn
    · simp at hn; omega
    · exact be32_range (by omega) (by have := hs.1; omega) n hn
  | k + 1, hk => by
    have h := List.getElem?_eq_getElem (l := t.ats) (i := k) (by omega)
    rw [keyUp_succ h]
    obtain ⟨h1, h2⟩ := ha k _ h
    intro n hn
    simp only [List.mem_append] at hn
    rcases hn with (((hn | hn) | hn) | hn) | hn
    · exact keyUp_range hs ht ha k (by omega) n hn
    · simp at hn; omega
    · simp at hn; split at hn <;> omega
    · exact be32_range (by omega) (by have := hs.2 k _ h; omega) n hn
    · exact h2 n hn

/-- The world behind the parameter's box. -/
def boxT (w : World) (t : Tr) (u : Value) : World := w.alloc (.cells #[.int .u8 t.ty, .int .u16 t.id, u] 55)
theorem size_boxT (w : World) (t : Tr) (u : Value) : (boxT w t u).heap.size = w.heap.size + 1 := by simp [boxT]
theorem hide {p : Prop} (h : p) : Hid p := h
theorem unhide {p : Prop} (h : Hid p) : p := h
/-- The world behind an attribute's box. -/
def boxA (w : World) (ty : Int) (tv : Bool) (u : Value) : World := w.alloc (.cells #[.int .u16 ty, .bool tv, u] 64)
theorem size_boxA (w : World) (ty : Int) (tv : Bool) (u : Value) : (boxA w ty tv u).heap.size = w.heap.size + 1 := by simp [boxA]

theorem bytesIn_newA (w : World) (ty : Int) (tv : Bool) (u : Value) (h0 : 0 ≤ ty) (h1 : ty ≤ 65535) :
    BytesIn (fun b => b = w.heap.size + 1) ((boxA w ty tv u).alloc (.cells ([ty / 256, ty % 256].map (Value.int .u8)).toArray 5)) (.slice (some ⟨w.heap.size + 1, 0, none⟩) 2 2) [ty / 256, ty % 256] := by
  have := bytesIn_new (boxA w ty tv u) [ty / 256, ty % 256] (by intro n hn; simp at hn; omega) (by simp [maxLen])
  rw [size_boxA] at this
  exact this

theorem bytesIn_one (w : World) (n : Int) (h0 : 0 ≤ n) (h1 : n ≤ 255) :
    BytesIn (fun b => b = w.heap.size) (w.alloc (.cells #[.int .u8 n] 5)) (.slice (some ⟨w.heap.size, 0, none⟩) 1 1) [n] :=
  bytesIn_new w [n] (by intro m hm; simp at hm; omega) (by simp [maxLen])

theorem box_later {wr w2 : World} {ty : Int} {tv : Bool} {u : Value} {g n c : Nat} {v2 : Value} (h : Grows (boxA wr ty tv u) w2 (.slice (some ⟨g, 0, none⟩) n c) v2) (hv : g < wr.heap.size) :
    w2.cell? ⟨wr.heap.size, 1, none⟩ = some (.bool tv) ∧ w2.cell? ⟨wr.heap.size, 2, none⟩ = some u ∧ wr.heap.size + 1 ≤ w2.heap.size := by
  have hne : ∀ j, (Value.slice (some ⟨g, 0, none⟩) n c).ownBlock ≠ some (⟨wr.heap.size, j, none⟩ : Addr).block := fun j e => by simp [Value.ownBlock] at e; omega
  refine ⟨h.cell ?_ (hne 1), h.cell ?_ (hne 2), ?_⟩
  · simp [boxA]
  · simp [boxA]
  · have := h.1.size; rw [size_boxA] at this; exact this

theorem box_below {wr w2 : World} {ty : Int} {tv : Bool} {u : Value} {g n c B : Nat} {v2 : Value} (h : Grows (boxA wr ty tv u) w2 (.slice (some ⟨g, 0, none⟩) n c) v2) (hv : B ≤ g) (hB : B ≤ wr.heap.size) : Below B wr w2 :=
  ((Below.refl B wr).alloc hB _).trans (h.below (by show B ≤ (wr.alloc _).heap.size; simp; omega) (fun g' hg' => by simp [Value.ownBlock] at hg'; omega))

theorem AttrsIn.full {ok : Nat → Prop} {w : World} {v : Value} {l : List Attr} (h : AttrsIn ok w v l) : ∀ (i : Nat) (a : Attr), l[i]? = some a → (0 ≤ a.ty ∧ a.ty ≤ 65535) ∧ ∀ n ∈ a.val, 0 ≤ n ∧ n ≤ 255 := by
  rcases h with ⟨_, rfl⟩ | ⟨b, o, s, cap, _, _, _, h3⟩
  · intro i n h; simp at h
  · intro i a hi
    obtain ⟨_, _, _, _, r0, r1, u, _, hu⟩ := h3 i a hi
    refine ⟨⟨r0, r1⟩, fun n hn => ?_⟩
    obtain ⟨j, hj, rfl⟩ := List.getElem_of_mem hn
    exact hu.range j _ (List.getElem?_eq_getElem hj)

set_option maxRecDepth 100000 in
set_option maxHeartbeats 2000000 in
theorem key38 {ok : Nat → Prop} (t : Tr) (u : Value) (w : World) (hu : AttrsIn ok w u t.ats) (hs : SmallT t) (ht : 0 ≤ t.ty ∧ t.ty ≤ 255 ∧ 0 ≤ t.id ∧ t.id ≤ 65535) :
    Calls Try.prog 38 #[.agg #[.int .u8 t.ty, .int .u16 t.id, u]] w (Gives w (fun w' v => BytesIn (fun b => w.heap.size ≤ b) w' v (keyOf t))) := by
  obtain ⟨ua, uc, rfl, hul, hum⟩ := hu.form
  have hB : Hid (AttrsIn (fun b => b < w.heap.size) w (.slice ua t.ats.length uc) t.ats ∧ SmallT t) := ⟨hu.weak (fun b _ hb => hb), hs⟩
  have ht20 : t.ats.length ≤ 1048576 := hs.1
  obtain ⟨t0, t1, t2, t3⟩ := ht
  have hown0 : OwnB ((boxT w t (.slice ua t.ats.length uc)).alloc (.cells ([t.ty, t.id / 256, t.id % 256].map (Value.int .u8)).toArray 5)) (w.heap.size + 1) (.slice (some ⟨w.heap.size + 1, 0, none⟩) 3 3) [t.ty, t.id / 256, t.id % 256] := by
    have := ownB_new (boxT w t (.slice ua t.ats.length uc)) (w.heap.size + 1) [t.ty, t.id / 256, t.id % 256] (by simp) (by simp [maxLen]) (by rw [size_boxT]; exact Nat.le_refl _)
    rw [size_boxT] at this
    exact this
  have HC : Hid ((boxT w t (.slice ua t.ats.length uc)).cell? ⟨w.heap.size, 2, none⟩ = some (.slice ua t.ats.length uc)) := by simp [Hid, boxT]
  have HO := hide hown0
  have HT : Hid (∀ k, k ≤ t.ats.length → (keyUp t k).length ≤ 7 + k * 1048583) := keyUp_len hs
  clear hown0 hu hs hul hum
  go_enter Try.func38, Try.ntmps38
  go_wp2_with fail
  refine (put46 (w.heap.size + 1) _ [t.ty, t.id / 256, t.id % 256] t.ats.length _ (by exact unhide HO) (by simp) (by simp) (by omega) (by omega)).mono ?_
  rintro e w1 ⟨v1, rfl, hown1, hgr1⟩
  have hb1 : Below (w.heap.size + 1) (boxT w t (.slice ua t.ats.length uc)) w1 := by
    refine ((Below.refl _ _).alloc (by rw [size_boxT]; exact Nat.le_refl _) _).trans (hgr1.below (B := w.heap.size + 1) (by simp) (fun g hg => ?_))
    simp [Value.ownBlock] at hg; omega
  have hown1' : OwnB w1 (w.heap.size + 1) v1 (keyUp t 0) := by simpa [keyUp] using hown1
  clear hgr1 hown1 HO
  go_wp2_with fail
  go_loopw [3, 4] (fun b i wr => ∃ k : Nat, k ≤ t.ats.length ∧ i = .int .i64 k ∧ OwnB wr (w.heap.size + 1) b (keyUp t k) ∧ Below (w.heap.size + 1) (boxT w t (.slice ua t.ats.length uc)) wr) (fun _ i _ => t.ats.length - (intOf i).toNat)
  case atStart => exact ⟨0, Nat.zero_le _, rfl, hown1', hb1⟩
  case round =>
    clear hb1 hown1'
    obtain ⟨k, hk, rfl, hown, hbel⟩ := hrel
    have hcell : wr.cell? ⟨w.heap.size, 2, none⟩ = some (.slice ua t.ats.length uc) := by rw [hbel.cell (by simp)]; exact HC.out
    have hbw : Below w.heap.size w wr := ((Below.refl w.heap.size w).alloc (Nat.le_refl _) _).trans (hbel.mono (by omega))
    have hsz : w.heap.size + 1 ≤ wr.heap.size := by have := hbel.size; rw [size_boxT] at this; exact this
    by_cases hlt : k < t.ats.length
    · obtain ⟨b, o, x, y, rfl, hx, hblt, c0, c1, c2, hy, r0, r1⟩ := hB.out.1.at hlt
      obtain ⟨ya, yc, rfl, hyl, hym⟩ := hy.form
      have c0' : wr.cell? ⟨b, o + k * 3, none⟩ = some (.int .u16 x.ty) := by rw [hbw.cell (by exact cell_lt c0)]; exact c0
      have c1' : wr.cell? ⟨b, o + k * 3 + 1, none⟩ = some (.bool x.tv) := by rw [hbw.cell (by exact cell_lt c1)]; exact c1
      have c2' : wr.cell? ⟨b, o + k * 3 + 2, none⟩ = some (.slice ya x.val.length yc) := by rw [hbw.cell (by exact cell_lt c2)]; exact c2
      have hx20 : x.val.length ≤ 1048576 := hB.out.2.2 k x hx
      have HK : Hid (keyUp t (k + 1) = keyUp t k ++ [x.ty / 256, x.ty % 256] ++ [if x.tv then 1 else 0] ++ be32 x.val.length ++ x.val) := keyUp_succ hx
      have hlen : (keyUp t k).length ≤ 1099535744007 := by have := HT.out k (by omega); omega
      obtain ⟨g, cap, rfl, hg, hgl, _⟩ := hown.form
      have HY : Hid (BytesIn (fun b => b < w.heap.size) w (.slice ya x.val.length yc) x.val) := hy
      clear c0 c1 c2 hx hy hyl hym hblt
      cases htv : x.tv with
      | true =>
        rw [htv] at c1'
        have HTV := hide htv
        clear htv
        go_wp2_with (first
          | (at_builtin; refine wpList_append_B (by rfl) (.tmp 33) (.tmp 41) (by rfl) (w.heap.size + 1) (.slice (some ⟨g, 0, none⟩) (keyUp t k).length cap) (keyUp t k) (by rfl) (by exact (hown.alloc _).alloc _) (.slice (some ⟨wr.heap.size + 1, 0, none⟩) 2 2) [x.ty / 256, x.ty % 256] (by rfl) (by exact bytesIn_newA wr x.ty true _ (by omega) (by omega)) (by simp; omega) (by simp; omega) ?_; intro v2 w2 hown2 hgr2; have hG2 : Grows (boxA wr x.ty true (.slice ya x.val.length yc)) w2 (.slice (some ⟨g, 0, none⟩) (keyUp t k).length cap) v2 := ((Grows.refl _ _).alloc _).trans hgr2; clear hgr2; obtain ⟨d1, d2, hz2⟩ := box_later hG2 hgl)
          | (at_builtin; refine wpList_append_B (by rfl) (.tmp 45) (.tmp 46) (by rfl) (w.heap.size + 1) v2 (keyUp t k ++ [x.ty / 256, x.ty % 256]) (by rfl) (by exact hown2.alloc _) (.slice (some ⟨w2.heap.size, 0, none⟩) 1 1) [1] (by rfl) (by exact bytesIn_one w2 1 (by omega) (by omega)) (by simp; omega) (by simp; omega) ?_; intro v3 w3 hown3 hgr3; have hG3 : Grows (boxA wr x.ty true (.slice ya x.val.length yc)) w3 (.slice (some ⟨g, 0, none⟩) (keyUp t k).length cap) v3 := (hG2.alloc _).trans hgr3; clear hgr3 hG2 d1 d2 hz2 hown2; obtain ⟨d1, d2, hz2⟩ := box_later hG3 hgl)
          | (go_at_call 46; refine (put46 (w.heap.size + 1) v3 (keyUp t k ++ [x.ty / 256, x.ty % 256] ++ [1]) x.val.length w3 hown3 (by omega) (by simp; omega) (by omega) (by omega)).mono ?_; rintro e w4 ⟨v4, rfl, hown4, hgr4⟩; have hG4 := hG3.trans hgr4; clear hgr4 hG3 d1 d2 hz2 hown3; obtain ⟨d1, d2, hz2⟩ := box_later hG4 hgl; have hy4 := HY.out.keep (keeps_of_below_lt (hbw.trans ((box_below hG4 hg hsz).mono (by omega))) (fun b hb => hb)))
          | (at_builtin; refine wpList_append_B (by rfl) (.tmp 56) (.tmp 58) (by rfl) (w.heap.size + 1) v4 (keyUp t k ++ [x.ty / 256, x.ty % 256] ++ [1] ++ be32 x.val.length) (by rfl) (by exact hown4) (.slice ya x.val.length yc) x.val (by rfl) (by exact hy4) (by simp [be32]; omega) (by omega) ?_; intro v5 w5 hown5 hgr5; have hG5 := hG4.trans hgr5; clear hgr5 hG4 d1 d2 hz2 hown4 hy4)
          | (at_builtin; fail))
        have R : Hid (OwnB w5 (w.heap.size + 1) v5 (keyUp t (k + 1)) ∧ Below (w.heap.size + 1) (boxT w t (.slice (some ⟨b, o, none⟩) t.ats.length uc)) w5) :=
          ⟨by rw [HK.out, HTV.out]; exact hown5, hbel.trans (box_below hG5 hg hsz)⟩
        clear hown5 hG5
        go_roundw
        case rel => exact ⟨k + 1, by omega, by go_num, R.out.1, R.out.2⟩
        case measure => simp [intOf]; omega
      | false =>
        rw [htv] at c1'
        have HTV := hide htv
        clear htv
        go_wp2_with (first
          | (at_builtin; refine wpList_append_B (by rfl) (.tmp 33) (.tmp 41) (by rfl) (w.heap.size + 1) (.slice (some ⟨g, 0, none⟩) (keyUp t k).length cap) (keyUp t k) (by rfl) (by exact (hown.alloc _).alloc _) (.slice (some ⟨wr.heap.size + 1, 0, none⟩) 2 2) [x.ty / 256, x.ty % 256] (by rfl) (by exact bytesIn_newA wr x.ty false _ (by omega) (by omega)) (by simp; omega) (by simp; omega) ?_; intro v2 w2 hown2 hgr2; have hG2 : Grows (boxA wr x.ty false (.slice ya x.val.length yc)) w2 (.slice (some ⟨g, 0, none⟩) (keyUp t k).length cap) v2 := ((Grows.refl _ _).alloc _).trans hgr2; clear hgr2; obtain ⟨d1, d2, hz2⟩ := box_later hG2 hgl)
          | (at_builtin; refine wpList_append_B (by rfl) (.tmp 48) (.tmp 49) (by rfl) (w.heap.size + 1) v2 (keyUp t k ++ [x.ty / 256, x.ty % 256]) (by rfl) (by exact hown2.alloc _) (.slice (some ⟨w2.heap.size, 0, none⟩) 1 1) [0] (by rfl) (by exact bytesIn_one w2 0 (by omega) (by omega)) (by simp; omega) (by simp; omega) ?_; intro v3 w3 hown3 hgr3; have hG3 : Grows (boxA wr x.ty false (.slice ya x.val.length yc)) w3 (.slice (some ⟨g, 0, none⟩) (keyUp t k).length cap) v3 := (hG2.alloc _).trans hgr3; clear hgr3 hG2 d1 d2 hz2 hown2; obtain ⟨d1, d2, hz2⟩ := box_later hG3 hgl)
          | (go_at_call 46; refine (put46 (w.heap.size + 1) v3 (keyUp t k ++ [x.ty / 256, x.ty % 256] ++ [0]) x.val.length w3 hown3 (by omega) (by simp; omega) (by omega) (by omega)).mono ?_; rintro e w4 ⟨v4, rfl, hown4, hgr4⟩; have hG4 := hG3.trans hgr4; clear hgr4 hG3 d1 d2 hz2 hown3; obtain ⟨d1, d2, hz2⟩ := box_later hG4 hgl; have hy4 := HY.out.keep (keeps_of_below_lt (hbw.trans ((box_below hG4 hg hsz).mono (by omega))) (fun b hb => hb)))
          | (at_builtin; refine wpList_append_B (by rfl) (.tmp 56) (.tmp 58) (by rfl) (w.heap.size + 1) v4 (keyUp t k ++ [x.ty / 256, x.ty % 256] ++ [0] ++ be32 x.val.length) (by rfl) (by exact hown4) (.slice ya x.val.length yc) x.val (by rfl) (by exact hy4) (by simp [be32]; omega) (by omega) ?_; intro v5 w5 hown5 hgr5; have hG5 := hG4.trans hgr5; clear hgr5 hG4 d1 d2 hz2 hown4 hy4)
          | (at_builtin; fail))
        have R : Hid (OwnB w5 (w.heap.size + 1) v5 (keyUp t (k + 1)) ∧ Below (w.heap.size + 1) (boxT w t (.slice (some ⟨b, o, none⟩) t.ats.length uc)) w5) :=
          ⟨by rw [HK.out, HTV.out]; exact hown5, hbel.trans (box_below hG5 hg hsz)⟩
        clear hown5 hG5
        go_roundw
        case rel => exact ⟨k + 1, by omega, by go_num, R.out.1, R.out.2⟩
        case measure => simp [intOf]; omega
    · have hke : k = t.ats.length := by omega
      have R := hide ((hown.bytes (keyUp_range hB.out.2 ⟨t0, t1, t2, t3⟩ hB.out.1.full k hk)).weak (ok' := fun b => w.heap.size ≤ b) (fun b hb _ => by omega))
      rw [hke] at R
      clear hke
      go_wp2
      go_ret
      exact ⟨⟨_, rfl, R.out⟩, hbw⟩
end Go.Proofs.Qxb6600910a
