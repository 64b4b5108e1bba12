/-
  parseModelBackupB1.
-/
import Derived.Test.Qxb6603256aBase
namespace Go.Proofs.Qxb6603256a
open Go.RowKit

/-! ### plain -/
theorem upL_snoc : ∀ {l os : List Int} {c d : Int}, upL l = some os → up c = some d → upL (l ++ [c]) = some (os ++ [d])
  | [], os, c, d, h, hu => by
    injection h with h
    subst h
    simp [upL, hu]
  | x :: l, os, c, d, h, hu => by
    simp only [upL, List.cons_append] at h ⊢
    cases hx : up x with
    | none => rw [hx] at h; cases h
    | some y =>
      rw [hx] at h
      obtain ⟨os', h1, h2⟩ := Option.map_eq_some_iff.1 h
      subst h2
      simp only [upL_snoc h1 hu, Option.map_some, List.cons_append]
theorem upL_len : ∀ {l os : List Int}, upL l = some os → os.length = l.length
  | [], os, h => by injection h with h; subst h; rfl
  | x :: l, os, h => by
    simp only [upL] at h
    cases hx : up x with
    | none => rw [hx] at h; cases h
    | some y =>
      rw [hx] at h
      obtain ⟨os', h1, h2⟩ := Option.map_eq_some_iff.1 h
      subst h2
      simp [upL_len h1]
theorem upL_bad : ∀ {l : List Int} {c : Int}, c ∈ l → up c = none → upL l = none
  | x :: l, c, h, hu => by
    simp only [upL]
    rcases List.mem_cons.1 h with h | h
    · subst h; rw [hu]
    · cases hx : up x with
      | none => rfl
      | some y => simp [upL_bad h hu]

/-- What the first loop holds. -/
structure InvK (a : ByteArray) (w wr : World) (k g cap : Nat) (bs : List Int) : Prop where
  kep : bs ++ kept ((tx a).drop k) = kept (tx a)
  own : Own w.heap.size wr g cap bs
  len : bs.length ≤ k
  bel : Below w.heap.size w wr

theorem InvK.sep {a : ByteArray} {w wr : World} {k g cap : Nat} {bs : List Int} (h : InvK a w wr k g cap bs) (hk : k < a.size) (hs : oct a k = 32 ∨ oct a k = 45) : InvK a w wr (k + 1) g cap bs :=
  ⟨by rw [← h.kep, tx_drop a hk, kept_sep hs], h.own, by have := h.len; omega, h.bel⟩
theorem InvK.next {a : ByteArray} {w wr : World} {k g cap : Nat} {bs : List Int} (h : InvK a w wr k g cap bs) (hk : k < a.size) (hs : ¬ (oct a k = 32 ∨ oct a k = 45)) {o : Obj} {g1 cap1 : Nat} {w2 : World}
    (hown : w2.ownsRow w.heap.size 5 1 (.slice (some ⟨g1, 0, none⟩) (bs.length + 1) cap1) (bs.length + 1) (bs.map (Value.int .u8) ++ [.int .u8 (oct a k)])) (hgrow : (wr.alloc o).grownBy w2 (Value.ownBlock (.slice (some ⟨g, 0, none⟩) bs.length cap))) :
    InvK a w w2 (k + 1) g1 cap1 (bs ++ [oct a k]) := by
  refine ⟨by rw [← h.kep, tx_drop a hk, kept_next hs]; simp, ?_, by have := h.len; simp; omega, ?_⟩
  · unfold Own
    rw [List.length_append, List.map_append]
    exact hown
  · have hs := h.bel.size
    refine (h.bel.alloc hs o).grown hgrow (by simp; omega) (fun m e => ?_)
    have : g = m := by simpa [Value.ownBlock] using e
    have := h.own.facts.1
    omega
theorem InvK.fin {a : ByteArray} {w wr : World} {k g cap : Nat} {bs : List Int} (h : InvK a w wr k g cap bs) (hk : a.size ≤ k) : bs = kept (tx a) := by
  have := h.kep
  rw [tx_end a hk] at this
  simpa [kept] using this

/-- What the second loop holds: the first k octets of bs have been made upper case into the row N. -/
structure Out (bs : List Int) (w1 wr : World) (k : Nat) (os : List Int) : Prop where
  upd : upL (bs.take k) = some os
  row : wr.rowIs w1.heap.size 5 bs.length (fun j => .int .u8 (os.getD j 0))
  bel : Below w1.heap.size w1 wr

theorem Out.start (bs : List Int) (w1 : World) : Out bs w1 (w1.alloc (.cells (madeCells #[.int .u8 0] bs.length) 5)) 0 [] :=
  ⟨rfl, (World.rowIs_made w1 (.int .u8 0) bs.length 5).congr (fun i _ => by simp), (Below.refl _ _).alloc (Nat.le_refl _) _⟩
theorem Out.next {bs : List Int} {w1 wr : World} {k : Nat} {os : List Int} (h : Out bs w1 wr k os) {c d d' : Int} (hc : bs[k]? = some c) (hu : up c = some d) (hd : d' = d) : Out bs w1 (wr.setCell ⟨w1.heap.size, k, none⟩ (.int .u8 d')) (k + 1) (os ++ [d]) := by
  subst hd
  have hl := (List.getElem?_eq_some_iff.1 hc).1
  have hk : os.length = k := by rw [upL_len h.upd, List.length_take]; omega
  refine ⟨by rw [List.take_add_one, hc]; exact upL_snoc h.upd hu, (World.rowIs.set h.row k (.int .u8 d')).congr (fun j _ => ?_), h.bel.setCell (Nat.le_refl _) _⟩
  show (if j = k then (.int .u8 d' : Value) else .int .u8 (os.getD j 0)) = .int .u8 ((os ++ [d']).getD j 0)
  rw [List.getD_eq_getElem?_getD, List.getD_eq_getElem?_getD]
  by_cases e : j = k
  · rw [if_pos e, List.getElem?_append_right (by omega), show j - os.length = 0 by omega]; rfl
  · rw [if_neg e]
    by_cases hlt : j < k
    · rw [List.getElem?_append_left (by omega)]
    · rw [List.getElem?_eq_none (by omega), List.getElem?_eq_none (by simp; omega)]
theorem Out.str {bs : List Int} {w1 wr : World} {os : List Int} (h : Out bs w1 wr bs.length os) : (convert 28 9 (.slice (some ⟨w1.heap.size, 0, none⟩) bs.length bs.length)).run Try.prog wr = .ok (.string (strOfNums os)) wr := by
  have hl : os.length = bs.length := by rw [upL_len h.upd, List.take_length]
  exact run_convert_bytes_arg wr 28 5 Try.underlying28 Try.underlying5 w1.heap.size 0 bs.length bs.length os hl (fun i hi => by rw [Nat.zero_add, World.rowIs.cell h.row hi]) 9 Try.underlying9

theorem model_no {l bs : List Int} (h : bs = kept l) (hl : bs.length ≠ 10) : modelP l = none := by
  subst h; exact if_neg hl
theorem model_bad {l bs : List Int} (h : bs = kept l) {k : Nat} {c : Int} (hc : bs[k]? = some c) (hu : up c = none) : modelP l = none := by
  subst h
  unfold modelP
  rw [upL_bad (List.mem_of_getElem? hc) hu, ite_self]
theorem model_ok {l bs os : List Int} (h : bs = kept l) (hl : bs.length = 10) {w1 wr : World} (ho : Out bs w1 wr bs.length os) : modelP l = some os := by
  have := ho.upd
  rw [List.take_length] at this
  subst h
  unfold modelP
  rw [if_pos hl, this]

set_option maxRecDepth 100000 in
set_option maxHeartbeats 2000000 in
theorem model8 (a : ByteArray) (w : World) (ha : a.size ≤ 1048576) :
    Calls Try.prog 8 #[.string a] w fun e w' => e = .returned (resV (modelP (tx a))) ∧ Below w.heap.size w w' := by
  obtain ⟨i0, hi, hz0, hz1, hz2⟩ := info_parts
  obtain ⟨w1, hmk, hown, hgr⟩ := run_make_own (P := Try.prog) w w.heap.size 28 5 i0 (.int .u8 0) 1 Try.underlying28 hi hz0 hz1 .i64 .i64 a.size (by rw [hz2]; omega) (by simp [maxLen]; omega) (Nat.le_refl _)
  have H : Hid (InvK a w w1 0 w.heap.size a.size []) := ⟨by simp, hown, by simp, (Below.refl _ _).grown hgr (Nat.le_refl _) (fun k h => by cases h)⟩
  clear hown hgr
  have hb := get_oct a
  go_enter Try.func8, Try.ntmps8
  go_wp2
  go_loopw [4, 5] (fun t u wr => ∃ (k g cap : Nat) (bs : List Int), k ≤ a.size ∧ t = .slice (some ⟨g, 0, none⟩) bs.length cap ∧ u = .int .i64 k ∧ InvK a w wr k g cap bs) (fun _ u _ => a.size - (intOf u).toNat)
  case atStart => exact ⟨0, _, _, [], Nat.zero_le _, rfl, rfl, H.out⟩
  case round =>
    obtain ⟨k, g, cap, bs, hk, rfl, rfl, hinv⟩ := hrel
    have hbl := hinv.len
    have hsz := hinv.bel.size
    have HI : Hid (InvK a w wr k g cap bs) := hinv
    clear hinv H hmk
    by_cases hlt : k < a.size
    · obtain ⟨hr0, hr1⟩ := oct_range a k
      by_cases h32 : oct a k = 32
      · have R : Hid (InvK a w wr (k + 1) g cap bs) := HI.out.sep hlt (.inl h32)
        go_wp2
        go_roundw
        case rel => exact ⟨k + 1, g, cap, bs, by omega, rfl, by go_num, R.out⟩
        case measure => simp [intOf]; omega
      by_cases h45 : oct a k = 45
      · have R : Hid (InvK a w wr (k + 1) g cap bs) := HI.out.sep hlt (.inr h45)
        go_wp2
        go_roundw
        case rel => exact ⟨k + 1, g, cap, bs, by omega, rfl, by go_num, R.out⟩
        case measure => simp [intOf]; omega
      have HS : Hid (¬ (oct a k = 32 ∨ oct a k = 45)) := by intro h; rcases h with h | h <;> contradiction
      have e32 : (oct a k == 32) = false := by simpa using h32
      have e45 : (oct a k == 45) = false := by simpa using h45
      go_wp2_with (at_builtin; refine wpList_append_lies _ (by rfl) (.tmp 28) (.tmp 30) 28 (by rfl) w.heap.size 5 i0 (.int .u8 0) 1 1 Try.underlying28 hi hz0 hz1 hz2 rfl (by omega) (.slice (some ⟨g, 0, none⟩) bs.length cap) bs.length (bs.map (Value.int .u8)) (by rfl) (by exact World.ownsRow.alloc HI.out.own _) ⟨wr.heap.size, 0, none⟩ 1 1 [.int .u8 (oct a k)] (by rfl) rfl (by exact World.news_of_block (heap_alloc_new wr _)) (bytes_oneCell [oct a k]) (by omega) (by unfold maxLen; omega) (by omega) (by simp; omega) (wr.heap.size + 1) (by simp) ?_; intro g1 cap1 w2 hown hgrow hat hlt2)
      have R : Hid (InvK a w w2 (k + 1) g1 cap1 (bs ++ [oct a k])) := HI.out.next hlt HS.out hown hgrow
      clear hown hgrow hat hlt2
      go_wp2
      go_roundw
      case rel => exact ⟨k + 1, g1, cap1, bs ++ [oct a k], by omega, by simp, by go_num, R.out⟩
      case measure => simp [intOf]; omega
    · have HF : Hid (bs = kept (tx a)) := HI.out.fin (by omega)
      by_cases hl : bs.length = 10
      · have hl' : ((bs.length : Int) != 10) = false := by simp; omega
        have HL : Hid (bs.length = 10) := hl
        have hmk2 := run_make_row' (P := Try.prog) 28 5 (.int .u8 0) 1 Try.underlying28 Try.info5 rfl .i64 .i64 bs.length (by omega) (by omega)
        clear hl
        rename World => w2
        go_wp2
        go_loopw [8] (fun t wr => ∃ (q : Nat) (os : List Int), q ≤ bs.length ∧ t = .int .i64 q ∧ Out bs w2 wr q os) (fun t _ => bs.length - (intOf t).toNat)
        case atStart => exact ⟨0, [], Nat.zero_le _, rfl, Out.start _ _⟩
        case round =>
          clear hlt hmk2
          obtain ⟨q, os, hq, rfl, hout⟩ := hrel
          have hsz2 := hout.bel.size
          have HO : Hid (Out bs w2 wr q os ∧ Below w.heap.size w wr) := ⟨hout, HI.out.bel.trans (hout.bel.mono HI.out.bel.size)⟩
          by_cases hlt : q < bs.length
          · obtain ⟨c, hc⟩ : ∃ c, bs[q]? = some c := ⟨_, List.getElem?_eq_getElem hlt⟩
            have hcell : wr.cell? ⟨g, q, none⟩ = some (.int .u8 c) := by rw [hout.bel.cell (by exact HI.out.own.facts.2.1)]; exact HI.out.own.cell hc
            have hcell2 := World.rowIs.cell hout.row hlt
            have hfz := World.rowIs.frozen hout.row q
            have HC : Hid (bs[q]? = some c) := hc
            clear hout hc
            by_cases hcs0 : 65 ≤ c ∧ c ≤ 90
            · have HU : Hid (up c = some (c)) := by unfold Hid up; rw [if_neg (by omega), if_pos (.inl hcs0)]
              obtain ⟨hu1, hu2⟩ := hcs0
              have R : Hid (Out bs w2 (wr.setCell ⟨w2.heap.size, q, none⟩ (.int .u8 (c))) (q + 1) (os ++ [c])) := HO.out.1.next HC.out HU.out (by omega)
              go_wp2
              go_roundw
              case rel => exact ⟨q + 1, _, by omega, by go_num, R.out⟩
              case measure => simp [intOf]; omega
            by_cases hcs1 : 48 ≤ c ∧ c ≤ 57
            · have HU : Hid (up c = some (c)) := by unfold Hid up; rw [if_neg (by omega), if_pos (.inr hcs1)]
              obtain ⟨hu1, hu2⟩ := hcs1
              have h3 : ¬ 65 ≤ c := by omega
              have R : Hid (Out bs w2 (wr.setCell ⟨w2.heap.size, q, none⟩ (.int .u8 (c))) (q + 1) (os ++ [c])) := HO.out.1.next HC.out HU.out (by omega)
              go_wp2
              go_roundw
              case rel => exact ⟨q + 1, _, by omega, by go_num, R.out⟩
              case measure => simp [intOf]; omega
            by_cases hcs2 : 97 ≤ c ∧ c ≤ 122
            · have HU : Hid (up c = some (c - 32)) := by unfold Hid up; rw [if_pos hcs2]
              obtain ⟨hu1, hu2⟩ := hcs2
              have h3 : 65 ≤ c := by omega
              have h4 : ¬ c ≤ 90 := by omega
              have h5 : 48 ≤ c := by omega
              have h6 : ¬ c ≤ 57 := by omega
              have R : Hid (Out bs w2 (wr.setCell ⟨w2.heap.size, q, none⟩ (.int .u8 (c - 97 + 65))) (q + 1) (os ++ [c - 32])) := HO.out.1.next HC.out HU.out (by omega)
              go_wp2
              go_roundw
              case rel => exact ⟨q + 1, _, by omega, by go_num, R.out⟩
              case measure => simp [intOf]; omega
            have R : Hid (modelP (tx a) = none) := model_bad HF.out HC.out (by unfold up; rw [if_neg hcs2, if_neg (by omega)])
            have b1 : (decide (65 ≤ c) && decide (c ≤ 90)) = false := by simp; omega
            have b2 : (decide (48 ≤ c) && decide (c ≤ 57)) = false := by simp; omega
            have b3 : (decide (97 ≤ c) && decide (c ≤ 122)) = false := by simp; omega
            go_wp2
            all_goals (go_ret2; rw [R.out]; exact ⟨rfl, HO.out.2⟩)
          · have hqe : q = bs.length := by omega
            subst hqe
            have hstr := HO.out.1.str
            have R : Hid (modelP (tx a) = some os) := model_ok HF.out HL.out HO.out.1
            clear hout
            go_wp2
            go_ret2
            rw [R.out]
            exact ⟨rfl, HO.out.2⟩
      · have hl' : ((bs.length : Int) != 10) = true := by simp; omega
        have R : Hid (modelP (tx a) = none) := model_no HF.out hl
        go_wp2
        go_ret2
        rw [R.out]
        exact ⟨rfl, HI.out.bel⟩
end Go.Proofs.Qxb6603256a
