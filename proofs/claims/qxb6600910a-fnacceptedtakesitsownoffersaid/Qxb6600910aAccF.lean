/-
  (template).accepted on its own offer.
-/
import Derived.Test.Qxb6600910aAcc
namespace Go.Proofs.Qxb6600910a
open Go.RowKit

/-- The cells that accepted reads. -/
theorem accKeep {W w4 w5 : World} {p N : Nat} {v0 v1 v2 v3 x0 x1 x2 : Value}
    (h : (w4.cell? ⟨p, 0, none⟩ = some v0 ∧ w4.cell? ⟨p, 1, none⟩ = some v1 ∧ w4.cell? ⟨p, 2, none⟩ = some v2 ∧ w4.cell? ⟨p, 3, none⟩ = some v3 ∧ w4.cell? ⟨N, 0, none⟩ = some x0 ∧ w4.cell? ⟨N, 1, none⟩ = some x1 ∧ w4.cell? ⟨N, 2, none⟩ = some x2) ∧ Below W.heap.size W w4)
    (hb : Below w4.heap.size w4 w5) :
    (w5.cell? ⟨p, 0, none⟩ = some v0 ∧ w5.cell? ⟨p, 1, none⟩ = some v1 ∧ w5.cell? ⟨p, 2, none⟩ = some v2 ∧ w5.cell? ⟨p, 3, none⟩ = some v3 ∧ w5.cell? ⟨N, 0, none⟩ = some x0 ∧ w5.cell? ⟨N, 1, none⟩ = some x1 ∧ w5.cell? ⟨N, 2, none⟩ = some x2) ∧ Below W.heap.size W w5 := by
  obtain ⟨⟨a0, a1, a2, a3, y0, y1, y2⟩, b⟩ := h
  exact ⟨⟨cell_later hb a0, cell_later hb a1, cell_later hb a2, cell_later hb a3, cell_later hb y0, cell_later hb y1, cell_later hb y2⟩, b.trans (hb.mono b.size)⟩
theorem accTr {W w4 : World} {c : Prop} {v : Value} {l : List Tr} (h : TrsIn (fun b => b < W.heap.size) W v l) (hS : c ∧ Below W.heap.size W w4) : TrsIn (fun b => b < W.heap.size) w4 v l := h.keep (keeps_of_below _ hS.2)

set_option maxRecDepth 100000 in
set_option maxHeartbeats 4000000 in
theorem acc39_full {ok ok' : Nat → Prop} (proto : Int) (va ta sa : Option Addr) (vc tc sn sc s p : Nat) (l : List Tr) (w : World) (h : TrsIn ok w (.slice va l.length vc) l)
    (ht : TrsIn ok' w (.slice ta l.length tc) l) (hs : SaAt w s p 1 proto (.slice sa sn sc) (.slice ta l.length tc)) :
    Calls Try.prog 39 #[.agg #[.int .u8 proto, .int .i64 sn, .slice va l.length vc], .pointer (some ⟨s, 0, none⟩)] w fun e w' => e = .returned (.pointer (some ⟨p, 0, none⟩)) ∧ Below w.heap.size w w' := by
  have c0 : ∀ x, (w.alloc x).cell? ⟨s, 0, none⟩ = _ := cellA hs.s0
  have H : Hid (TrsIn ok w (.slice va l.length vc) l ∧ TrsIn ok' w (.slice ta l.length tc) l ∧ SaAt w s p 1 proto (.slice sa sn sc) (.slice ta l.length tc)) := ⟨h, ht, hs⟩
  clear hs h ht
  go_enter Try.func39, Try.ntmps39
  go_wp2
  obtain ⟨W, hW⟩ : ∃ W, W = w.alloc (.cells #[.int .u8 proto, .int .i64 sn, .slice va l.length vc] 73) := ⟨_, rfl⟩
  rw [← hW]
  have HW : Hid (W.cell? ⟨p, 0, none⟩ = some (.int .u8 1) ∧ W.cell? ⟨p, 1, none⟩ = some (.int .u8 proto) ∧ W.cell? ⟨p, 2, none⟩ = some (.slice sa sn sc) ∧ W.cell? ⟨p, 3, none⟩ = some (.slice ta l.length tc) ∧
      W.cell? ⟨w.heap.size, 0, none⟩ = some (.int .u8 proto) ∧ W.cell? ⟨w.heap.size, 1, none⟩ = some (.int .i64 sn) ∧ W.cell? ⟨w.heap.size, 2, none⟩ = some (.slice va l.length vc) ∧
      TrsIn (fun b => b < W.heap.size) W (.slice va l.length vc) l ∧ TrsIn (fun b => b < W.heap.size) W (.slice ta l.length tc) l ∧ Below w.heap.size w W) := by
    have hbW : Below w.heap.size w W := by rw [hW]; exact (Below.refl _ _).alloc (Nat.le_refl _) _
    refine ⟨cell_later hbW H.out.2.2.p0, cell_later hbW H.out.2.2.p1, cell_later hbW H.out.2.2.p2, cell_later hbW H.out.2.2.p3, ?_, ?_, ?_, (H.out.1.keep (keeps_of_below _ hbW)).weak (fun _ _ h => h), (H.out.2.1.keep (keeps_of_below _ hbW)).weak (fun _ _ h => h), hbW⟩
    · rw [hW]; exact cell_of_row _ _ 0 _ 73 (0, 0) (heap_alloc_new w _)
    · rw [hW]; exact cell_of_row _ _ 1 _ 73 (0, 0) (heap_alloc_new w _)
    · rw [hW]; exact cell_of_row _ _ 2 _ 73 (0, 0) (heap_alloc_new w _)
  clear hW H c0
  obtain ⟨k0, k1, k2, k3, b0, b1, b2, _, _, _⟩ := HW.out
  go_region_held3 (fun w' => (w'.cell? ⟨p, 0, none⟩ = some (.int .u8 1) ∧ w'.cell? ⟨p, 1, none⟩ = some (.int .u8 proto) ∧ w'.cell? ⟨p, 2, none⟩ = some (.slice sa sn sc) ∧ w'.cell? ⟨p, 3, none⟩ = some (.slice ta l.length tc) ∧
      w'.cell? ⟨w.heap.size, 0, none⟩ = some (.int .u8 proto) ∧ w'.cell? ⟨w.heap.size, 1, none⟩ = some (.int .i64 sn) ∧ w'.cell? ⟨w.heap.size, 2, none⟩ = some (.slice va l.length vc)) ∧ Below W.heap.size W w')
    (first | exact ⟨⟨k0, k1, k2, k3, b0, b1, b2⟩, (Below.refl _ _).drew⟩ | exact accKeep (by assumption) (by assumption))
    (first | (go_at_call 35; refine (holds35 ta va l.length tc l.length vc l l _ (accTr HW.out.2.2.2.2.2.2.2.2.1 (by assumption)) (accTr HW.out.2.2.2.2.2.2.2.1 (by assumption))).mono ?_; rintro e w5 ⟨rfl, hb5⟩; rw [holdsP_refl]))
  have HB : Hid (Below w.heap.size w w5) := by
    have hS := (‹_ ∧ Below W.heap.size W w5›).2
    exact HW.out.2.2.2.2.2.2.2.2.2.trans (hS.mono HW.out.2.2.2.2.2.2.2.2.2.size)
  clear HW k0 k1 k2 k3 b0 b1 b2 hb5
  go_wp2
  go_ret
  exact ⟨rfl, HB.out⟩

def accV (num : Int) (sn : Nat) (sl : Int) (p : Nat) : Value := if num = 1 ∧ (sn : Int) = sl then .pointer (some ⟨p, 0, none⟩) else .pointer none

theorem acc39 {ok ok' : Nat → Prop} (proto sl num : Int) (va ta sa : Option Addr) (vc tc sn sc s p : Nat) (l : List Tr) (w : World) (h : TrsIn ok w (.slice va l.length vc) l)
    (ht : TrsIn ok' w (.slice ta l.length tc) l) (hs : SaAt w s p num proto (.slice sa sn sc) (.slice ta l.length tc)) :
    Calls Try.prog 39 #[.agg #[.int .u8 proto, .int .i64 sl, .slice va l.length vc], .pointer (some ⟨s, 0, none⟩)] w fun e w' => e = .returned (accV num sn sl p) ∧ Below w.heap.size w w' := by
  unfold accV
  by_cases hn : num = 1
  · subst hn
    by_cases hl : (sn : Int) = sl
    · subst hl
      rw [if_pos ⟨rfl, rfl⟩]
      exact acc39_full proto va ta sa vc tc sn sc s p l w h ht hs
    · rw [if_neg (fun x => hl x.2)]
      exact acc39_len proto sl va ta sa vc tc sn sc s p l w hs hl
  · rw [if_neg (fun x => hn x.1)]
    exact acc39_num proto sl num va ta sa vc tc sn sc s p l w hs hn

set_option maxHeartbeats 400000 in
theorem zzacc22 {ok ok' : Nat → Prop} (proto sl num : Int) (va ta sa : Option Addr) (vc tc sn sc s p : Nat) (l : List Tr) (w : World) (h : TrsIn ok w (.slice va l.length vc) l)
    (ht : TrsIn ok' w (.slice ta l.length tc) l) (hs : SaAt w s p num proto (.slice sa sn sc) (.slice ta l.length tc)) :
    Calls Try.prog 22 #[.int .u8 proto, .int .i64 sl, .slice va l.length vc, .pointer (some ⟨s, 0, none⟩)] w fun e w' => e = .returned (accV num sn sl p) ∧ Below w.heap.size w w' := by
  have hc := hide (acc39 proto sl num va ta sa vc tc sn sc s p l w h ht hs)
  clear h ht hs
  go_enter Try.func22, Try.ntmps22
  go_wp2_with fail
  refine (unhide hc).mono ?_
  rintro e w' ⟨rfl, hb⟩
  have HB : Hid (Below w.heap.size w w') := hb
  clear hb hc
  go_wp2
  go_ret
  exact ⟨rfl, HB.out⟩
end Go.Proofs.Qxb6600910a
