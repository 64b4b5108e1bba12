/-
  zzScribble: it writes into what it is handed, and into nothing else.
-/
import Derived.Test.Qxb6600910aSClone
namespace Go.Proofs.Qxb6600910a
open Go.RowKit

/-- Two values of one kind. -/
def sk (v v' : Value) : Prop := (∃ k a b, v = .int k a ∧ v' = .int k b) ∨ (∃ a b, v = .bool a ∧ v' = .bool b) ∨ v = v'

theorem sk.refl (v : Value) : sk v v := .inr (.inr rfl)
theorem sk.int (k : IntKind) (a b : Int) : sk (.int k a) (.int k b) := .inl ⟨k, a, b, rfl, rfl⟩
theorem sk.bool (a b : Bool) : sk (.bool a) (.bool b) := .inr (.inl ⟨a, b, rfl, rfl⟩)
theorem sk.trans {a b c : Value} (h : sk a b) (k : sk b c) : sk a c := by
  rcases h with ⟨i, x, y, rfl, rfl⟩ | ⟨x, y, rfl, rfl⟩ | rfl
  · rcases k with ⟨i', x', y', e, rfl⟩ | ⟨x', y', e, rfl⟩ | rfl
    · injection e with e1 e2; subst e1; exact .inl ⟨_, _, _, rfl, rfl⟩
    · cases e
    · exact .inl ⟨_, _, _, rfl, rfl⟩
  · rcases k with ⟨i', x', y', e, rfl⟩ | ⟨x', y', e, rfl⟩ | rfl
    · cases e
    · exact .inr (.inl ⟨_, _, rfl, rfl⟩)
    · exact .inr (.inl ⟨_, _, rfl, rfl⟩)
  · exact k
theorem sk.int_inv {k : IntKind} {a : Int} {v : Value} (h : sk (.int k a) v) : ∃ b, v = .int k b := by
  rcases h with ⟨i, x, y, e, rfl⟩ | ⟨x, y, e, rfl⟩ | rfl
  · injection e with e1 e2; subst e1; exact ⟨_, rfl⟩
  · cases e
  · exact ⟨_, rfl⟩
theorem sk.bool_inv {a : Bool} {v : Value} (h : sk (.bool a) v) : ∃ b, v = .bool b := by
  rcases h with ⟨i, x, y, e, rfl⟩ | ⟨x, y, e, rfl⟩ | rfl
  · cases e
  · exact ⟨_, rfl⟩
  · exact ⟨_, rfl⟩
theorem sk.slice_inv {a : Option Addr} {n c : Nat} {v : Value} (h : sk (.slice a n c) v) : v = .slice a n c := by
  rcases h with ⟨i, x, y, e, rfl⟩ | ⟨x, y, e, rfl⟩ | rfl
  · cases e
  · cases e
  · rfl

/-- Every cell holds a value of the kind that it held; what was frozen is. -/
def SK (w w' : World) : Prop := (∀ a v, w.cell? a = some v → ∃ v', w'.cell? a = some v' ∧ sk v v') ∧ ∀ a, w'.frozen? a = w.frozen? a

theorem SK.refl (w : World) : SK w w := ⟨fun _ v h => ⟨v, h, sk.refl v⟩, fun _ => rfl⟩
theorem SK.setCell {w w' : World} (h : SK w w') {p : Addr} {u u' : Value} (hu : w'.cell? p = some u) (hk : sk u u') : SK w (w'.setCell p u') := by
  refine ⟨fun a v hv => ?_, fun a => ?_⟩
  · obtain ⟨v', h1, h2⟩ := h.1 a v hv
    by_cases e : p = a
    · subst e
      rw [hu] at h1; injection h1 with h1; subst h1
      exact ⟨u', World.cell?_setCell_same _ _ _ hu, h2.trans hk⟩
    · exact ⟨v', by rw [World.cell?_setCell_other _ _ _ _ e]; exact h1, h2⟩
  · rw [← h.2 a]; exact World.frozen?_setCell _ _ _ _

set_option maxRecDepth 100000 in
set_option maxHeartbeats 2000000 in
theorem scribble33 (B : Nat) (a : Option Addr) (len cap : Nat) (l : List Tr) (w : World) (h : TrsIn (OkF (fun b => B ≤ b) w) w (.slice a len cap) l) :
    Calls Try.prog 33 #[.slice a len cap] w fun e w' => e = .returned (.tuple #[]) ∧ Below B w w' := by
  obtain ⟨hlen, hlc, hcap⟩ := h.len
  unfold maxLen at hcap
  have hl63 : len ≤ 9223372036854775807 := by omega
  have H : Hid (TrsIn (OkF (fun b => B ≤ b) w) w (.slice a len cap) l ∧ len = l.length) := ⟨h, hlen⟩
  clear h hlen hlc hcap
  go_enter Try.func33, Try.ntmps33
  go_wp2
  go_loopw [2] (fun i wr => ∃ k : Nat, k ≤ len ∧ i = .int .i64 k ∧ SK w wr ∧ Below B w wr) (fun i _ => len - (intOf i).toNat)
  case atStart => exact ⟨0, Nat.zero_le _, rfl, SK.refl _, Below.refl _ _⟩
  case round =>
    obtain ⟨k, hk, rfl, hsk, hbel⟩ := hrel
    rename World => w1
    by_cases hlt : k < len
    · obtain ⟨b, o, t, u, rfl, ht, hok, c0, c1, c2, hu, _⟩ := H.out.1.at hlt
      obtain ⟨v0, d0, s0⟩ := hsk.1 _ _ c0
      obtain ⟨x0, rfl⟩ := s0.int_inv
      obtain ⟨v1, d1, s1⟩ := hsk.1 _ _ c1
      obtain ⟨x1, rfl⟩ := s1.int_inv
      obtain ⟨ua, uc, rfl, hul, hum⟩ := hu.form
      unfold maxLen at hum
      obtain ⟨v2, d2, s2⟩ := hsk.1 _ _ c2
      obtain rfl := s2.slice_inv
      have f0 : w1.frozen? ⟨b, o + k * 3, none⟩ = false := (hsk.2 _).trans (hok.2 _)
      have f1 : w1.frozen? ⟨b, o + k * 3 + 1, none⟩ = false := (hsk.2 _).trans (hok.2 _)
      have HS : Hid (∀ x y, SK w ((w1.setCell ⟨b, o + k * 3, none⟩ (.int .u8 x)).setCell ⟨b, o + k * 3 + 1, none⟩ (.int .u16 y)) ∧ Below B w ((w1.setCell ⟨b, o + k * 3, none⟩ (.int .u8 x)).setCell ⟨b, o + k * 3 + 1, none⟩ (.int .u16 y))) := fun x y =>
        ⟨(hsk.setCell d0 (sk.int _ _ _)).setCell (u := .int .u16 x1) (by rw [World.cell?_setCell_other _ _ _ _ (by simp)]; exact d1) (sk.int _ _ _), (hbel.setCell hok.1 _).setCell hok.1 _⟩
      have H2 : Hid (AttrsIn (OkF (fun b => B ≤ b) w) w (.slice ua t.ats.length uc) t.ats) := hu
      clear hsk hbel c0 c1 c2 s0 s1 s2 hu hok ht
      go_wp2
      go_loopw [4] (fun i wr => ∃ j : Nat, j ≤ t.ats.length ∧ i = .int .i64 j ∧ SK w wr ∧ Below B w wr) (fun i _ => t.ats.length - (intOf i).toNat)
      case atStart => exact ⟨0, Nat.zero_le _, rfl, (HS.out _ _).1, (HS.out _ _).2⟩
      case round =>
        clear HS d0 d1 d2 f0 f1
        obtain ⟨j, hj, rfl, hsk, hbel⟩ := hrel
        rename World => w2
        by_cases hjl : j < t.ats.length
        · obtain ⟨b2, o2, y, u2, rfl, hy, hok, c0, c1, c2, hu, _⟩ := H2.out.at hjl
          obtain ⟨v0, d0, s0⟩ := hsk.1 _ _ c0
          obtain ⟨y0, rfl⟩ := s0.int_inv
          obtain ⟨v1, d1, s1⟩ := hsk.1 _ _ c1
          obtain ⟨y1, rfl⟩ := s1.bool_inv
          obtain ⟨va, vc, rfl, hvl, hvm⟩ := hu.form
          unfold maxLen at hvm
          obtain ⟨v2, d2, s2⟩ := hsk.1 _ _ c2
          obtain rfl := s2.slice_inv
          have f0 : w2.frozen? ⟨b2, o2 + j * 3, none⟩ = false := (hsk.2 _).trans (hok.2 _)
          have f1 : w2.frozen? ⟨b2, o2 + j * 3 + 1, none⟩ = false := (hsk.2 _).trans (hok.2 _)
          have HS : Hid (∀ x y, SK w ((w2.setCell ⟨b2, o2 + j * 3, none⟩ (.int .u16 x)).setCell ⟨b2, o2 + j * 3 + 1, none⟩ (.bool y)) ∧ Below B w ((w2.setCell ⟨b2, o2 + j * 3, none⟩ (.int .u16 x)).setCell ⟨b2, o2 + j * 3 + 1, none⟩ (.bool y))) := fun x y =>
            ⟨(hsk.setCell d0 (sk.int _ _ _)).setCell (u := .bool y1) (by rw [World.cell?_setCell_other _ _ _ _ (by simp)]; exact d1) (sk.bool _ _), (hbel.setCell hok.1 _).setCell hok.1 _⟩
          have H3 : Hid (BytesIn (OkF (fun b => B ≤ b) w) w (.slice va y.val.length vc) y.val) := hu
          clear hsk hbel c0 c1 c2 s0 s1 s2 hu hok hy
          go_wp2
          go_loopw [6] (fun i wr => ∃ q : Nat, q ≤ y.val.length ∧ i = .int .i64 q ∧ SK w wr ∧ Below B w wr) (fun i _ => y.val.length - (intOf i).toNat)
          case atStart => exact ⟨0, Nat.zero_le _, rfl, (HS.out _ _).1, (HS.out _ _).2⟩
          case round =>
            clear HS d0 d1 d2 f0 f1
            obtain ⟨q, hq, rfl, hsk, hbel⟩ := hrel
            by_cases hql : q < y.val.length
            · obtain ⟨b3, o3, m, rfl, hm, hok, c0, _⟩ := H3.out.at hql
              obtain ⟨v0, d0, s0⟩ := hsk.1 _ _ c0
              obtain ⟨m0, rfl⟩ := s0.int_inv
              have f0 : wr.frozen? ⟨b3, o3 + q, none⟩ = false := (hsk.2 _).trans (hok.2 _)
              have HS : Hid (∀ x, SK w (wr.setCell ⟨b3, o3 + q, none⟩ (.int .u8 x)) ∧ Below B w (wr.setCell ⟨b3, o3 + q, none⟩ (.int .u8 x))) := fun x =>
                ⟨hsk.setCell d0 (sk.int _ _ _), hbel.setCell hok.1 _⟩
              clear hsk hbel c0 s0 hok hm
              go_wp2
              go_roundw
              case rel => exact ⟨q + 1, by omega, by go_num, (HS.out _).1, (HS.out _).2⟩
              case measure => simp [intOf]; omega
            · go_wp2
              go_roundw
              case rel => exact ⟨j + 1, by omega, by go_num, hsk, hbel⟩
              case measure => simp [intOf]; omega
        · go_wp2
          go_roundw
          case rel => exact ⟨k + 1, by omega, by go_num, hsk, hbel⟩
          case measure => simp [intOf]; omega
    · clear hsk
      go_wp2
      go_end0
      exact ⟨rfl, hbel⟩
end Go.Proofs.Qxb6600910a
