/-
  backup.Parse.
-/
import Derived.Test.Qxb6603256aBase
namespace Go.Proofs.Qxb6603256a
open Go.RowKit

/-- What the loop of Parse holds behind k octets. -/
structure Inv (a : ByteArray) (w wr : World) (k g cap : Nat) (bs : List Int) : Prop where
  par : parseP bs ((tx a).drop k) = parseP [] (tx a)
  own : Own w.heap.size wr g cap bs
  ten : bs.length ≤ 10
  bel : Below w.heap.size w wr

theorem Inv.sep {a : ByteArray} {w wr : World} {k g cap : Nat} {bs : List Int} (h : Inv a w wr k g cap bs) (hk : k < a.size) (hs : oct a k = 32 ∨ oct a k = 45) : Inv a w wr (k + 1) g cap bs :=
  ⟨by rw [← h.par, tx_drop a hk, parse_sep hs], h.own, h.ten, h.bel⟩
theorem Inv.bad {a : ByteArray} {w wr : World} {k g cap : Nat} {bs : List Int} (h : Inv a w wr k g cap bs) (hk : k < a.size) (hs : ¬ (oct a k = 32 ∨ oct a k = 45)) (hu : up (oct a k) = none) : parseP [] (tx a) = none := by
  rw [← h.par, tx_drop a hk, parse_bad hs hu]
theorem Inv.full {a : ByteArray} {w wr : World} {k g cap : Nat} {bs : List Int} (h : Inv a w wr k g cap bs) (hk : k < a.size) {d : Int} (hs : ¬ (oct a k = 32 ∨ oct a k = 45)) (hu : up (oct a k) = some d) (hl : bs.length = 10) : parseP [] (tx a) = none := by
  rw [← h.par, tx_drop a hk, parse_full hs hu hl]
theorem Inv.next {a : ByteArray} {w wr : World} {k g cap : Nat} {bs : List Int} (h : Inv a w wr k g cap bs) (hk : k < a.size) {d : Int} (hs : ¬ (oct a k = 32 ∨ oct a k = 45)) (hu : up (oct a k) = some d) (hl : bs.length ≠ 10) {o : Obj} {g1 cap1 : Nat} {w2 : World}
    (hown : w2.ownsRow w.heap.size 5 1 (.slice (some ⟨g1, 0, none⟩) (bs.length + 1) cap1) (bs.length + 1) (bs.map (Value.int .u8) ++ [.int .u8 d])) (hgrow : (wr.alloc o).grownBy w2 (Value.ownBlock (.slice (some ⟨g, 0, none⟩) bs.length cap))) :
    Inv a w w2 (k + 1) g1 cap1 (bs ++ [d]) := by
  refine ⟨by rw [← h.par, tx_drop a hk, parse_next hs hu hl], ?_, by have := h.ten; simp; omega, ?_⟩
  · unfold Own
    rw [List.length_append, List.map_append]
    exact hown
  · have hs := h.bel.size
    refine (h.bel.alloc hs o).grown hgrow (by simp; omega) (fun m e => ?_)
    have : g = m := by simpa [Value.ownBlock] using e
    have := h.own.facts.1
    omega

set_option maxRecDepth 100000 in
set_option maxHeartbeats 2000000 in
theorem parse7 (a : ByteArray) (w : World) (ha : a.size ≤ 1048576) :
    Calls Try.prog 7 #[.string a] w fun e w' => e = .returned (resV (parseP [] (tx a))) ∧ Below w.heap.size w w' := by
  obtain ⟨i0, hi, hz0, hz1, hz2⟩ := info_parts
  obtain ⟨w1, hmk, hown, hgr⟩ := run_make_own (P := Try.prog) w w.heap.size 28 5 i0 (.int .u8 0) 1 Try.underlying28 hi hz0 hz1 .i64 .i64 10 (by omega) (by simp [maxLen]) (Nat.le_refl _)
  have H : Hid (Inv a w w1 0 w.heap.size 10 []) := ⟨by simp, hown, by simp, (Below.refl _ _).grown hgr (Nat.le_refl _) (fun k h => by cases h)⟩
  have hmk' : Sem.run Try.prog (Instr.makeSlice 28 (.int .i64 0) (.int .i64 10)) w = .ok (.slice (some ⟨w.heap.size, 0, none⟩) 0 10) w1 := hmk
  clear hown hgr hmk
  have hb := get_oct a
  go_enter Try.func7, Try.ntmps7
  go_wp2
  go_loopw [4, 5] (fun t u wr => ∃ (k g cap : Nat) (bs : List Int), k ≤ a.size ∧ t = .slice (some ⟨g, 0, none⟩) bs.length cap ∧ u = .int .i64 k ∧ Inv a w wr k g cap bs) (fun _ u _ => a.size - (intOf u).toNat)
  case atStart => exact ⟨0, _, _, [], Nat.zero_le _, rfl, rfl, H.out⟩
  case round =>
    obtain ⟨k, g, cap, bs, hk, rfl, rfl, hinv⟩ := hrel
    have hten := hinv.ten
    have hsz := hinv.bel.size
    have HI : Hid (Inv a w wr k g cap bs) := hinv
    clear hinv H hmk'
    by_cases hlt : k < a.size
    · obtain ⟨hr0, hr1⟩ := oct_range a k
      by_cases h32 : oct a k = 32
      · have R : Hid (Inv a w wr (k + 1) g cap bs) := HI.out.sep hlt (.inl h32)
        go_wp2
        go_roundw
        case rel => exact ⟨k + 1, g, cap, bs, by omega, rfl, by go_num, R.out⟩
        case measure => simp [intOf]; omega
      by_cases h45 : oct a k = 45
      · have R : Hid (Inv a w wr (k + 1) g cap bs) := HI.out.sep hlt (.inr h45)
        go_wp2
        go_roundw
        case rel => exact ⟨k + 1, g, cap, bs, by omega, rfl, by go_num, R.out⟩
        case measure => simp [intOf]; omega
      have HS : Hid (¬ (oct a k = 32 ∨ oct a k = 45)) := by intro h; rcases h with h | h <;> contradiction
      by_cases hlow : 97 ≤ oct a k ∧ oct a k ≤ 122
      · have HU : Hid (up (oct a k) = some (oct a k - 32)) := by unfold Hid up; rw [if_pos hlow]
        obtain ⟨hl1, hl2⟩ := hlow
        by_cases hl : bs.length = 10
        · have R : Hid (parseP [] (tx a) = none) := HI.out.full hlt HS.out (HU.out) hl
          have hl' : ((bs.length : Int) == 10) = true := by simp; omega
          go_wp2
          go_ret2
          rw [R.out]
          exact ⟨rfl, HI.out.bel⟩
        · have hl' : ((bs.length : Int) == 10) = false := by simp; omega
          go_wp2_with (at_builtin; refine wpList_append_lies _ (by rfl) (.tmp 47) (.tmp 49) 28 (by rfl) w.heap.size 5 i0 (.int .u8 0) 1 1 Try.underlying28 hi hz0 hz1 hz2 rfl (by omega) (.slice (some ⟨g, 0, none⟩) bs.length cap) bs.length (bs.map (Value.int .u8)) (by rfl) (by exact World.ownsRow.alloc HI.out.own _) ⟨wr.heap.size, 0, none⟩ 1 1 [.int .u8 (oct a k - 32)] (by rfl) rfl (by exact World.news_of_block (heap_alloc_new wr _)) (bytes_oneCell [oct a k - 32]) (by omega) (by unfold maxLen; omega) (by omega) (by simp; omega) (wr.heap.size + 1) (by simp) ?_; intro g1 cap1 w2 hown hgrow hat hlt2)
          have R : Hid (Inv a w w2 (k + 1) g1 cap1 (bs ++ [oct a k - 32])) := HI.out.next hlt HS.out HU.out hl hown hgrow
          clear hown hgrow hat hlt2
          go_wp2
          go_roundw
          case rel => exact ⟨k + 1, g1, cap1, bs ++ [oct a k - 32], by omega, by simp, by go_num, R.out⟩
          case measure => simp [intOf]; omega
      by_cases hup : 65 ≤ oct a k ∧ oct a k ≤ 90
      · have HU : Hid (up (oct a k) = some (oct a k)) := by unfold Hid up; rw [if_neg hlow, if_pos (.inl hup)]
        obtain ⟨hu1, hu2⟩ := hup
        have hu3 : ¬ 97 ≤ oct a k := by omega
        clear hlow
        by_cases hl : bs.length = 10
        · have R : Hid (parseP [] (tx a) = none) := HI.out.full hlt HS.out (HU.out) hl
          have hl' : ((bs.length : Int) == 10) = true := by simp; omega
          go_wp2
          go_ret2
          rw [R.out]
          exact ⟨rfl, HI.out.bel⟩
        · have hl' : ((bs.length : Int) == 10) = false := by simp; omega
          go_wp2_with (at_builtin; refine wpList_append_lies _ (by rfl) (.tmp 47) (.tmp 49) 28 (by rfl) w.heap.size 5 i0 (.int .u8 0) 1 1 Try.underlying28 hi hz0 hz1 hz2 rfl (by omega) (.slice (some ⟨g, 0, none⟩) bs.length cap) bs.length (bs.map (Value.int .u8)) (by rfl) (by exact World.ownsRow.alloc HI.out.own _) ⟨wr.heap.size, 0, none⟩ 1 1 [.int .u8 (oct a k)] (by rfl) rfl (by exact World.news_of_block (heap_alloc_new wr _)) (bytes_oneCell [oct a k]) (by omega) (by unfold maxLen; omega) (by omega) (by simp; omega) (wr.heap.size + 1) (by simp) ?_; intro g1 cap1 w2 hown hgrow hat hlt2)
          have R : Hid (Inv a w w2 (k + 1) g1 cap1 (bs ++ [oct a k])) := HI.out.next hlt HS.out HU.out hl hown hgrow
          clear hown hgrow hat hlt2
          go_wp2
          go_roundw
          case rel => exact ⟨k + 1, g1, cap1, bs ++ [oct a k], by omega, by simp, by go_num, R.out⟩
          case measure => simp [intOf]; omega
      by_cases hdg : 48 ≤ oct a k ∧ oct a k ≤ 57
      · have HU : Hid (up (oct a k) = some (oct a k)) := by unfold Hid up; rw [if_neg hlow, if_pos (.inr hdg)]
        obtain ⟨hu1, hu2⟩ := hdg
        have hu3 : ¬ 97 ≤ oct a k := by omega
        have hu4 : ¬ 65 ≤ oct a k := by omega
        clear hlow hup
        by_cases hl : bs.length = 10
        · have R : Hid (parseP [] (tx a) = none) := HI.out.full hlt HS.out (HU.out) hl
          have hl' : ((bs.length : Int) == 10) = true := by simp; omega
          go_wp2
          go_ret2
          rw [R.out]
          exact ⟨rfl, HI.out.bel⟩
        · have hl' : ((bs.length : Int) == 10) = false := by simp; omega
          go_wp2_with (at_builtin; refine wpList_append_lies _ (by rfl) (.tmp 47) (.tmp 49) 28 (by rfl) w.heap.size 5 i0 (.int .u8 0) 1 1 Try.underlying28 hi hz0 hz1 hz2 rfl (by omega) (.slice (some ⟨g, 0, none⟩) bs.length cap) bs.length (bs.map (Value.int .u8)) (by rfl) (by exact World.ownsRow.alloc HI.out.own _) ⟨wr.heap.size, 0, none⟩ 1 1 [.int .u8 (oct a k)] (by rfl) rfl (by exact World.news_of_block (heap_alloc_new wr _)) (bytes_oneCell [oct a k]) (by omega) (by unfold maxLen; omega) (by omega) (by simp; omega) (wr.heap.size + 1) (by simp) ?_; intro g1 cap1 w2 hown hgrow hat hlt2)
          have R : Hid (Inv a w w2 (k + 1) g1 cap1 (bs ++ [oct a k])) := HI.out.next hlt HS.out HU.out hl hown hgrow
          clear hown hgrow hat hlt2
          go_wp2
          go_roundw
          case rel => exact ⟨k + 1, g1, cap1, bs ++ [oct a k], by omega, by simp, by go_num, R.out⟩
          case measure => simp [intOf]; omega
      · have R : Hid (parseP [] (tx a) = none) := HI.out.bad hlt HS.out (by unfold up; rw [if_neg hlow, if_neg (by omega)])
        have b1 : (decide (97 ≤ oct a k) && decide (oct a k ≤ 122)) = false := by simp; omega
        have b2 : (decide (65 ≤ oct a k) && decide (oct a k ≤ 90)) = false := by simp; omega
        have b3 : (decide (48 ≤ oct a k) && decide (oct a k ≤ 57)) = false := by simp; omega
        go_wp2
        all_goals (go_ret2; rw [R.out]; exact ⟨rfl, HI.out.bel⟩)
    · have hpar := HI.out.par
      rw [tx_end a (by omega), parseP] at hpar
      by_cases hl : bs.length = 10
      · rw [if_pos hl] at hpar
        have R : Hid (parseP [] (tx a) = some bs) := hpar.symm
        have hstr := HI.out.own.str 23 Try.underlying23
        have hl' : ((bs.length : Int) != 10) = false := by simp; omega
        clear hpar hl
        go_wp2
        go_ret2
        rw [R.out]
        exact ⟨rfl, HI.out.bel⟩
      · rw [if_neg hl] at hpar
        have R : Hid (parseP [] (tx a) = none) := hpar.symm
        have hl' : ((bs.length : Int) != 10) = true := by simp; omega
        clear hpar
        go_wp2
        go_ret2
        rw [R.out]
        exact ⟨rfl, HI.out.bel⟩
end Go.Proofs.Qxb6603256a
