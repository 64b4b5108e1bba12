/-
  zzKeyEq.
-/
import Derived.Test.Qxb6600910aKey
import Derived.Test.Qxb6600910aCmp
import Derived.Deep.RegionWith
import Derived.Deep.DrawnRows
namespace Go.Proofs.Qxb6600910a
open Go.RowKit
attribute [local go_sem ↓] Go.wp_at_zero Go.wp_at_succ

/-- What is asked of a transform to have its key taken. -/
def OkT (t : Tr) : Prop := SmallT t ∧ 0 ≤ t.ty ∧ t.ty ≤ 255 ∧ 0 ≤ t.id ∧ t.id ≤ 65535

/-- A transform by value: its attributes lie in w. -/
def TrV (ok : Nat → Prop) (w : World) (v : Value) (t : Tr) : Prop := ∃ u, v = .agg #[.int .u8 t.ty, .int .u16 t.id, u] ∧ AttrsIn ok w u t.ats

theorem TrV.keep {ok : Nat → Prop} {w w' : World} {v : Value} {t : Tr} (k : Keeps ok w w') (h : TrV ok w v t) : TrV ok w' v t := by
  obtain ⟨u, e, h⟩ := h; exact ⟨u, e, h.keep k⟩

/-- The world behind two parameters' boxes. -/
def box2 (w : World) (t t' : Tr) (u u' : Value) : World := (w.alloc (.cells #[.int .u8 t.ty, .int .u16 t.id, u] 55)).alloc (.cells #[.int .u8 t'.ty, .int .u16 t'.id, u'] 55)
theorem size_box2 (w : World) (t t' : Tr) (u u' : Value) : (box2 w t t' u u').heap.size = w.heap.size + 2 := by simp [box2]
theorem keeps_drew (ok : Nat → Prop) (w : World) : Keeps ok w w.drew := fun _ _ _ h => h
theorem box2_later {w w1 : World} {t t' : Tr} {u u' : Value} (h : Below (w.heap.size + 2) (box2 w t t' u u') w1) :
    w1.cell? ⟨w.heap.size + 1, 0, none⟩ = some (.int .u8 t'.ty) ∧ w1.cell? ⟨w.heap.size + 1, 1, none⟩ = some (.int .u16 t'.id) ∧ w1.cell? ⟨w.heap.size + 1, 2, none⟩ = some u' := by
  refine ⟨?_, ?_, ?_⟩
  all_goals
    rw [h.cell (by simp)]
    unfold box2
    rw [show w.heap.size + 1 = (w.alloc (.cells #[.int .u8 t.ty, .int .u16 t.id, u] 55)).heap.size by simp]
    simp

set_option maxRecDepth 100000 in
set_option maxHeartbeats 2000000 in
theorem keyEq30 {ok ok' : Nat → Prop} (t t' : Tr) (u u' : Value) (w : World) (hu : AttrsIn ok w u t.ats) (hu' : AttrsIn ok' w u' t'.ats) (ht : OkT t) (ht' : OkT t') :
    Calls Try.prog 30 #[.agg #[.int .u8 t.ty, .int .u16 t.id, u], .agg #[.int .u8 t'.ty, .int .u16 t'.id, u']] w fun e w' => e = .returned (.bool (cmpL (keyOf t) (keyOf t') == 0)) ∧ Below w.heap.size w w' := by
  obtain ⟨ua, uc, rfl, _⟩ := hu.form
  obtain ⟨ua', uc', rfl, _⟩ := hu'.form
  have hb0 : Below w.heap.size w (box2 w t t' (.slice ua t.ats.length uc) (.slice ua' t'.ats.length uc')) := ((Below.refl _ _).alloc (Nat.le_refl _) _).alloc (by simp) _
  have H : Hid (AttrsIn ok (box2 w t t' (.slice ua t.ats.length uc) (.slice ua' t'.ats.length uc')) (.slice ua t.ats.length uc) t.ats ∧ AttrsIn ok' (box2 w t t' (.slice ua t.ats.length uc) (.slice ua' t'.ats.length uc')) (.slice ua' t'.ats.length uc') t'.ats ∧ OkT t ∧ OkT t' ∧ Below w.heap.size w (box2 w t t' (.slice ua t.ats.length uc) (.slice ua' t'.ats.length uc'))) :=
    ⟨hu.keep (keeps_of_below _ hb0), hu'.keep (keeps_of_below _ hb0), ht, ht', hb0⟩
  clear hu hu' ht ht' hb0
  go_enter Try.func30, Try.ntmps30
  go_wp2
  go_region_with (first
    | (go_at_call_of 38 (t.ty); refine (key38 t (.slice ua t.ats.length uc) _ (by exact H.out.1.keep (keeps_drew _ _)) H.out.2.2.1.1 H.out.2.2.1.2).mono ?_; rintro e w1 ⟨⟨v1, rfl, hv1⟩, hb1⟩; have hb1' : Below (w.heap.size + 2) (box2 w t t' (.slice ua t.ats.length uc) (.slice ua' t'.ats.length uc')) w1 := (Below.refl _ _).drew.trans (hb1.mono (by simp)); clear hb1; obtain ⟨k0, k1, k2⟩ := box2_later hb1'; obtain ⟨va, vc, rfl, _⟩ := hv1.form)
    | (go_at_call_of 38 (t'.ty); refine (key38 t' (.slice ua' t'.ats.length uc') _ (by exact H.out.2.1.keep (keeps_of_below _ (by rw [size_box2]; exact hb1'))) H.out.2.2.2.1.1 H.out.2.2.2.1.2).mono ?_; rintro e w2 ⟨⟨v2, rfl, hv2⟩, hb2⟩; obtain ⟨va', vc', rfl, _⟩ := hv2.form; have hv1' := hv1.keep (keeps_of_below _ hb2))
    | (go_at_call 40; refine (cmp40 _ _ (keyOf t) (keyOf t') _ (by exact hv1') (by exact hv2)).mono ?_; rintro e w3 ⟨rfl, hb3⟩))
  all_goals
    have hb13 : Below w1.heap.size w1 w3 := hb2.trans (hb3.mono hb2.size)
    have R : Hid (Below w.heap.size w w3) := by
      refine H.out.2.2.2.2.trans ((hb1'.mono (by omega)).trans (hb13.mono ?_))
      have := hb1'.size; rw [size_box2] at this; omega
    clear hb13 hb1' hb2 hb3 hv1 hv1' hv2 k0 k1 k2
    go_wp2
    go_ret
    exact ⟨rfl, R.out⟩
end Go.Proofs.Qxb6600910a
