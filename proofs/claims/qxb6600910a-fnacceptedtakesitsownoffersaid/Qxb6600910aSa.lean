/-
  (template).sa: an SA of one proposal whose transforms are deep clones.
-/
import Derived.Test.Qxb6600910aSaP
import Derived.Test.Qxb6600910aBytes
import Derived.Test.Qxb6600910aKey
import Derived.Test.Qxb6600910aEqualL
import Derived.Deep.RegionWith
import Derived.Test.Qxb6600910aKeyEq
import Derived.Deep.DrawnRows
namespace Go.Proofs.Qxb6600910a
open Go.RowKit
attribute [local go_sem ↓] Go.wp_at_zero Go.wp_at_succ

/-- An SA of one proposal lies at block s. -/
structure SaAt (w : World) (s p : Nat) (num proto : Int) (spi vt : Value) : Prop where
  s0 : w.cell? ⟨s, 0, none⟩ = some (.slice (some ⟨p, 0, none⟩) 1 1)
  p0 : w.cell? ⟨p, 0, none⟩ = some (.int .u8 num)
  p1 : w.cell? ⟨p, 1, none⟩ = some (.int .u8 proto)
  p2 : w.cell? ⟨p, 2, none⟩ = some spi
  p3 : w.cell? ⟨p, 3, none⟩ = some vt

/-- What sa leaves. -/
def SaRes (w : World) (l : List Tr) (num proto : Int) (spi : Value) (e : Ending) (w' : World) : Prop :=
  ∃ s p vt, e = .returned (.pointer (some ⟨s, 0, none⟩)) ∧ SaAt w' s p num proto spi vt ∧ TrsIn (OkF (fun b => w.heap.size ≤ b) w') w' vt l ∧ w.heap.size ≤ s ∧ w.heap.size ≤ p ∧ Below w.heap.size w w'

/-- The world behind the receiver's box. -/
def boxM (w : World) (proto sl : Int) (v : Value) : World := w.alloc (.cells #[.int .u8 proto, .int .i64 sl, v] 73)
theorem size_boxM (w : World) (proto sl : Int) (v : Value) : (boxM w proto sl v).heap.size = w.heap.size + 1 := by simp [boxM]

/-- The world behind the box of a round's transform. -/
def boxX (w : World) (t : Tr) (u : Value) : World := w.alloc (.cells #[.int .u8 t.ty, .int .u16 t.id, u] 61)
/-- The world behind the box of a round's attribute. -/
def boxY (w : World) (a : Attr) (u : Value) : World := w.alloc (.cells #[.int .u16 a.ty, .bool a.tv, u] 66)
theorem size_boxY (w : World) (a : Attr) (u : Value) : (boxY w a u).heap.size = w.heap.size + 1 := by simp [boxY]

/-- The world in which sa ends. -/
def endM (wr : World) (num proto : Int) (spi vt : Value) : World := (wr.alloc (.cells #[.int .u8 num, .int .u8 proto, spi, vt] 42)).alloc (.cells #[.slice (some ⟨wr.heap.size, 0, none⟩) 1 1] 45)

theorem saEnd {w wr : World} {l : List Tr} {num proto : Int} {spi vt : Value} (ht : TrsIn (OkF (fun b => w.heap.size ≤ b) wr) wr vt l) (hb : Below w.heap.size w wr) :
    SaRes w l num proto spi (.returned (.pointer (some ⟨wr.heap.size + 1, 0, none⟩))) (endM wr num proto spi vt) := by
  have hb2 : Below wr.heap.size wr (endM wr num proto spi vt) := ((Below.refl _ _).alloc (Nat.le_refl _) _).alloc (by simp) _
  have hs : w.heap.size ≤ wr.heap.size := hb.size
  have e1 : (wr.alloc (.cells #[.int .u8 num, .int .u8 proto, spi, vt] 42)).heap.size = wr.heap.size + 1 := by simp
  have c : ∀ i, (endM wr num proto spi vt).cell? ⟨wr.heap.size, i, none⟩ = (#[.int .u8 num, .int .u8 proto, spi, vt] : Array Value)[i]? := fun i => by
    unfold endM
    rw [World.cell?_of_block (w := wr.alloc (.cells #[.int .u8 num, .int .u8 proto, spi, vt] 42)) (Below.heap_alloc _ _ _ (by simp)), cell_of_row _ wr.heap.size i _ 42 (0, 0) (heap_alloc_new wr _)]
  refine ⟨_, wr.heap.size, vt, rfl, ⟨?_, c 0, c 1, c 2, c 3⟩, ht.fkeep (keepsF_below _ hb2), by omega, hs, hb.trans (hb2.mono hs)⟩
  have := cell_of_row _ _ 0 _ 45 (0, 0) (heap_alloc_new (wr.alloc (.cells #[.int .u8 num, .int .u8 proto, spi, vt] 42)) (.cells #[.slice (some ⟨wr.heap.size, 0, none⟩) 1 1] 45))
  rw [e1] at this
  exact this

theorem boxM_cell {w wr : World} {proto sl : Int} {v : Value} (h : Below (w.heap.size + 1) (boxM w proto sl v) wr) : wr.cell? ⟨w.heap.size, 0, none⟩ = some (.int .u8 proto) := by
  rw [h.cell (by simp)]
  exact cell_of_row _ _ 0 _ 73 (0, 0) (heap_alloc_new w _)

theorem boxM_below {w wr : World} {proto sl : Int} {v : Value} (h : Below (w.heap.size + 1) (boxM w proto sl v) wr) : Below w.heap.size w wr :=
  ((Below.refl w.heap.size w).alloc (Nat.le_refl _) _).trans (h.mono (by omega))

set_option maxRecDepth 100000 in
set_option maxHeartbeats 2000000 in
theorem sa41_nil (proto sl num : Int) (sa : Option Addr) (sn sc : Nat) (w : World) :
    Calls Try.prog 41 #[.agg #[.int .u8 proto, .int .i64 sl, .slice none 0 0], .int .u8 num, .slice sa sn sc] w (SaRes w [] num proto (.slice sa sn sc)) := by
  go_enter Try.func41, Try.ntmps41
  go_wp2_with fail
  refine (clone47_nil _).mono ?_
  rintro e w1 ⟨rfl, rfl⟩
  go_wp2_with fail
  go_loopw [17] (fun i wr => ∃ k : Nat, k = 0 ∧ i = .int .i64 k ∧ Below (w.heap.size + 1) (boxM w proto sl (.slice none 0 0)) wr) (fun _ _ => 0)
  case atStart => exact ⟨0, rfl, rfl, Below.refl _ _⟩
  case round =>
    obtain ⟨k, rfl, rfl, hbel⟩ := hrel
    have hc := boxM_cell hbel
    have R : Hid (SaRes w [] num proto (.slice sa sn sc) (.returned (.pointer (some ⟨wr.heap.size + 1, 0, none⟩))) (endM wr num proto (.slice sa sn sc) (.slice none 0 0))) := saEnd (.inl ⟨rfl, rfl⟩) (boxM_below hbel)
    clear hbel
    go_wp2
    go_ret
    exact R.out

set_option maxRecDepth 100000 in
set_option maxHeartbeats 4000000 in
theorem sa41_some (proto sl num : Int) (x : Addr) (n cap : Nat) (l : List Tr) (sa : Option Addr) (sn sc : Nat) (w : World) {ok : Nat → Prop} (h : TrsIn ok w (.slice (some x) n cap) l) (hs : Small l) :
    Calls Try.prog 41 #[.agg #[.int .u8 proto, .int .i64 sl, .slice (some x) n cap], .int .u8 num, .slice sa sn sc] w (SaRes w l num proto (.slice sa sn sc)) := by
  obtain ⟨hlen, hlc, hcap⟩ := h.len
  have hn20 : n ≤ 1048576 := by have := hs.1; omega
  have HL : Hid (Small l ∧ (∀ (i : Nat) (t : Tr), l[i]? = some t → 0 ≤ t.ty ∧ t.ty ≤ 255 ∧ 0 ≤ t.id ∧ t.id ≤ 65535) ∧ n = l.length) := ⟨hs, h.range, hlen⟩
  have h0 : TrsIn (fun b => b < w.heap.size) (boxM w proto sl (.slice (some x) n cap)) (.slice (some x) n cap) l := (h.weak (fun b _ hb => hb)).keep (keeps_alloc _ _ _)
  have H0 := hide h0
  clear h h0 hs hlen hlc hcap
  go_enter Try.func41, Try.ntmps41
  go_wp2_with fail
  refine (clone47_trs (N := w.heap.size) x n cap l _ (by exact unhide H0) hn20).mono ?_
  rintro e w1 ⟨⟨v, rfl, hv⟩, hb1⟩
  have hb1' : Below (w.heap.size + 1) (boxM w proto sl (.slice (some x) n cap)) w1 := hb1.mono (by simp)
  clear hb1 H0
  rcases hv with ⟨rfl, rfl⟩ | ⟨G, c, rfl, hG, hnc, hcm, hsaw⟩
  · go_wp2_with fail
    go_loopw [17] (fun i wr => ∃ k : Nat, k = 0 ∧ i = .int .i64 k ∧ Below (w.heap.size + 1) (boxM w proto sl (.slice (some x) 0 cap)) wr) (fun _ _ => 0)
    case atStart => exact ⟨0, rfl, rfl, hb1'⟩
    case round =>
      clear hb1'
      obtain ⟨k, rfl, rfl, hbel⟩ := hrel
      have hc := boxM_cell hbel
      have hl0 : l = [] := List.eq_nil_of_length_eq_zero HL.out.2.2.symm
      have R : Hid (SaRes w l num proto (.slice sa sn sc) (.returned (.pointer (some ⟨wr.heap.size + 1, 0, none⟩))) (endM wr num proto (.slice sa sn sc) (.slice none 0 0))) := saEnd (.inl ⟨rfl, hl0⟩) (boxM_below hbel)
      clear hbel hl0
      go_wp2
      go_ret
      exact R.out
  · have hG' : w.heap.size + 1 ≤ G := by simpa using hG
    clear hG
    go_wp2_with fail
    go_loopw [17] (fun i wr => ∃ k : Nat, k ≤ n ∧ i = .int .i64 k ∧ SaW w.heap.size wr G c l k ∧ Below (w.heap.size + 1) (boxM w proto sl (.slice (some x) n cap)) wr) (fun i _ => n - (intOf i).toNat)
    case atStart => exact ⟨0, Nat.zero_le _, rfl, hsaw, hb1'⟩
    case round =>
      clear hb1' hsaw
      obtain ⟨k, hk, rfl, hsaw, hbel⟩ := hrel
      rename World => w2
      have hlt2 := hsaw.lt
      by_cases hlt : k < n
      · obtain ⟨t, ht⟩ : ∃ t, l[k]? = some t := ⟨_, List.getElem?_eq_getElem (by have := HL.out.2.2; omega)⟩
        obtain ⟨u, c0, c1, c2, hu⟩ := hsaw.at ht (by omega)
        obtain ⟨ua, uc, rfl, hul, hum⟩ := hu.form
        have ht20 : t.ats.length ≤ 1048576 := (HL.out.1.2 k t ht).1
        have HT : Hid (l[k]? = some t ∧ SaW w.heap.size w2 G c l k ∧ AttrsIn (fun b => b < w.heap.size) w2 (.slice ua t.ats.length uc) t.ats ∧ Below (w.heap.size + 1) (boxM w proto sl (.slice (some x) n cap)) w2) := ⟨ht, hsaw, hu, hbel⟩
        have H1 : Hid (AttrsIn (fun b => b < w.heap.size) (boxX w2 t (.slice ua t.ats.length uc)) (.slice ua t.ats.length uc) t.ats) := hu.keep (keeps_alloc _ _ _)
        clear ht hsaw hu hbel hul hum
        go_wp2_with fail
        refine (clone48_any _ t.ats _ (by exact unhide H1) ht20).mono ?_
        rintro e w3 ⟨⟨v, rfl, hv⟩, hb3⟩
        have hb3' : Below (w2.heap.size + 1) (boxX w2 t (.slice ua t.ats.length uc)) w3 := hb3.mono (by simp)
        have hbX : Below w2.heap.size w2 w3 := ((Below.refl w2.heap.size w2).alloc (Nat.le_refl _) _).trans (hb3'.mono (by omega))
        have hsaw3 := HT.out.2.1.below hbX
        obtain ⟨z, hz⟩ := hsaw3.cell (k * 3 + 2) (by omega)
        have hzf := hsaw3.frozen (k * 3 + 2)
        have hx2 : w3.cell? ⟨w2.heap.size, 2, none⟩ = some (.slice ua t.ats.length uc) := by
          rw [hb3'.cell (by simp)]
          exact cell_of_row _ _ 2 _ 61 (0, 0) (heap_alloc_new w2 _)
        have hGX : ¬ w2.heap.size = G := by omega
        have HB3 : Hid (Below w2.heap.size w2 w3 ∧ Below (w2.heap.size + 1) (boxX w2 t (.slice ua t.ats.length uc)) w3) := ⟨hbX, hb3'⟩
        clear hb3 hb3' hbX hsaw3 H1 c0 c1 c2
        rcases hv with ⟨rfl, hnil⟩ | ⟨M, c', rfl, hM, hmc, hcm', hsav⟩
        · have hl0 : t.ats.length = 0 := by rw [hnil]; rfl
          have hm0 : t.ats.length ≤ 0 := by omega
          have R : Hid (SaW w.heap.size (w3.setCell ⟨G, k * 3 + 2, none⟩ (.slice none 0 0)) G c l (k + 1) ∧ Below (w.heap.size + 1) (boxM w proto sl (.slice (some x) n cap)) (w3.setCell ⟨G, k * 3 + 2, none⟩ (.slice none 0 0))) :=
            ⟨(HT.out.2.1.below HB3.out.1).next (by omega) HT.out.1 (.inl ⟨rfl, hnil⟩), (HT.out.2.2.2.trans (HB3.out.1.mono (by omega))).setCell (by simp; omega) _⟩
          clear hnil hl0
          go_wp2_with fail
          go_loopw [32] (fun i wr => ∃ j : Nat, j = 0 ∧ i = .int .i64 j ∧ SaW w.heap.size wr G c l (k + 1) ∧ Below (w.heap.size + 1) (boxM w proto sl (.slice (some x) n cap)) wr) (fun _ _ => 0)
          case atStart => exact ⟨0, rfl, rfl, R.out.1, R.out.2⟩
          case round =>
            clear R
            obtain ⟨j, rfl, rfl, hr1, hr2⟩ := hrel
            go_wp2
            go_roundw
            case rel => exact ⟨k + 1, by omega, by go_num, hr1, hr2⟩
            case measure => simp [intOf]; omega
        · have hM' : w2.heap.size + 1 ≤ M := by simpa using hM
          clear hM
          have hbw3 : Below w.heap.size w w3 := (boxM_below HT.out.2.2.2).trans (HB3.out.1.mono (boxM_below HT.out.2.2.2).size)
          have hMlt := hsav.lt
          have R : Hid (SaV (w3.setCell ⟨G, k * 3 + 2, none⟩ (.slice (some ⟨M, 0, none⟩) t.ats.length c')) M c' t.ats 0) := hsav.other (by simp; omega)
          have HA : Hid ((w3.setCell ⟨G, k * 3 + 2, none⟩ (.slice (some ⟨M, 0, none⟩) t.ats.length c')).cell? ⟨G, k * 3 + 2, none⟩ = some (.slice (some ⟨M, 0, none⟩) t.ats.length c')) := World.cell?_setCell_same _ _ _ hz
          clear hsav
          go_wp2_with fail
          go_loopw [32] (fun i wr => ∃ j : Nat, j ≤ t.ats.length ∧ i = .int .i64 j ∧ SaV wr M c' t.ats j ∧ Below M (w3.setCell ⟨G, k * 3 + 2, none⟩ (.slice (some ⟨M, 0, none⟩) t.ats.length c')) wr) (fun i _ => t.ats.length - (intOf i).toNat)
          case atStart => exact ⟨0, Nat.zero_le _, rfl, R.out, Below.refl _ _⟩
          case round =>
            clear R hz hzf hx2
            obtain ⟨j, hj, rfl, hsv, hbq⟩ := hrel
            have hbN : Below w.heap.size w2 wr := ((HB3.out.1.mono (boxM_below HT.out.2.2.2).size).setCell (by simp; omega) _).trans (hbq.mono (by have := (boxM_below HT.out.2.2.2).size; omega))
            have hsz := hbq.size
            by_cases hjl : j < t.ats.length
            · obtain ⟨b2, o2, y, u2, rfl, hy, _, e0, e1, e2, hv, _⟩ := HT.out.2.2.1.at hjl
              obtain ⟨va, vc, rfl, _⟩ := hv.form
              have e0' : wr.cell? ⟨b2, o2 + j * 3, none⟩ = some (.int .u16 y.ty) := keeps_of_below_lt hbN (fun b hb => hb) _ _ (by assumption) e0
              have e1' : wr.cell? ⟨b2, o2 + j * 3 + 1, none⟩ = some (.bool y.tv) := keeps_of_below_lt hbN (fun b hb => hb) _ _ (by assumption) e1
              have e2' : wr.cell? ⟨b2, o2 + j * 3 + 2, none⟩ = some (.slice va y.val.length vc) := keeps_of_below_lt hbN (fun b hb => hb) _ _ (by assumption) e2
              have hA0 : wr.cell? ⟨G, k * 3 + 2, none⟩ = some (.slice (some ⟨M, 0, none⟩) t.ats.length c') := by rw [hbq.cell (by simp; omega)]; exact HA.out
              have hA1 := cellA hA0
              have hy20 : y.val.length ≤ 1048576 := (HL.out.1.2 k t HT.out.1).2 j y hy
              have HY : Hid (t.ats[j]? = some y ∧ BytesIn (fun b => b < w.heap.size) (boxY wr y (.slice va y.val.length vc)) (.slice va y.val.length vc) y.val ∧ SaV wr M c' t.ats j ∧ Below M (w3.setCell ⟨G, k * 3 + 2, none⟩ (.slice (some ⟨M, 0, none⟩) t.ats.length c')) wr) :=
                ⟨hy, (hv.keep (keeps_of_below_lt hbN (fun b hb => hb))).keep (keeps_alloc _ _ _), hsv, hbq⟩
              have hMr := hsv.lt
              have hki : (k : Int) < (n : Int) := by omega
              have hji : (j : Int) < (t.ats.length : Int) := by omega
              clear e0 e1 e2 hv hy hsv hbq hbN
              go_wp2_with fail
              go_region_with (go_at_call 49; refine (clone49_bytes _ y.val _ (by exact HY.out.2.1.keep (keeps_drew _ _)) hy20).mono ?_; rintro e w5 ⟨⟨v5, rfl, hv5⟩, hb5⟩; have hb5' : Below wr.heap.size wr w5 := (((Below.refl wr.heap.size wr).alloc (Nat.le_refl _) _).drew).trans (hb5.mono (by simp)); have hA5 := cell_later hb5' hA0; have hsv5 := HY.out.2.2.1.below hb5'; obtain ⟨z5, hz5⟩ := hsv5.cell (j * 3 + 2) (by omega); have hf5 := hsv5.frozen (j * 3 + 2); obtain ⟨wa, wc, rfl, _⟩ := hv5.form)
              all_goals
                have R2 : Hid (SaV (w5.setCell ⟨M, j * 3 + 2, none⟩ (.slice wa y.val.length wc)) M c' t.ats (j + 1) ∧ Below M (w3.setCell ⟨G, k * 3 + 2, none⟩ (.slice (some ⟨M, 0, none⟩) t.ats.length c')) (w5.setCell ⟨M, j * 3 + 2, none⟩ (.slice wa y.val.length wc))) :=
                  ⟨hsv5.next HY.out.1 (hv5.weak (fun b hb _ => ⟨by have := hb.1; simp at this; omega, hb.2⟩)), (HY.out.2.2.2.trans (hb5'.mono (by omega))).setCell (Nat.le_refl _) _⟩
                clear hsv5 hv5 hb5 hb5' hz5 hf5 hA5
                go_wp2
                go_roundw
                case rel => exact ⟨j + 1, by omega, by go_num, R2.out.1, R2.out.2⟩
                case measure => simp [intOf]; omega
            · have hje : j = t.ats.length := by omega
              rw [hje] at hsv
              have R2 : Hid (SaW w.heap.size wr G c l (k + 1) ∧ Below (w.heap.size + 1) (boxM w proto sl (.slice (some x) n cap)) wr) := by
                refine ⟨HT.out.2.1.finish (v := .slice (some ⟨M, 0, none⟩) t.ats.length c') (by omega) HT.out.1 ?_ (fun b hb hne => ?_) ?_, ?_⟩
                · rw [hbq.block G (by omega)]
                  exact block_setCell (HB3.out.1.block G hlt2)
                · rw [hbq.block b (by omega), Below.heap_setCell _ _ _ _ (by simpa using hne), HB3.out.1.block b hb]
                · exact (hsv.all hmc hcm' HT.out.2.2.1.range).weak (fun b hb _ => ⟨by have := hb.1; omega, hb.2⟩)
                · have hw2 := HT.out.2.2.2.size
                  rw [size_boxM] at hw2
                  exact ((HT.out.2.2.2.trans (HB3.out.1.mono hw2)).setCell (by simp; omega) _).trans (hbq.mono (by omega))
              clear hsv hbq hbN hje
              go_wp2
              go_roundw
              case rel => exact ⟨k + 1, by omega, by go_num, R2.out.1, R2.out.2⟩
              case measure => simp [intOf]; omega
      · have R : Hid (SaRes w l num proto (.slice sa sn sc) (.returned (.pointer (some ⟨w2.heap.size + 1, 0, none⟩))) (endM w2 num proto (.slice sa sn sc) (.slice (some ⟨G, 0, none⟩) n c))) := by
          have hke : k = l.length := by have := HL.out.2.2; omega
          rw [hke] at hsaw
          have := hsaw.all (by have := HL.out.2.2; omega) hcm HL.out.2.1
          rw [← HL.out.2.2] at this
          exact saEnd (this.weak (fun b hb _ => ⟨by have := hb.1; omega, hb.2⟩)) (boxM_below hbel)
        have hc := boxM_cell hbel
        clear hsaw hbel
        go_wp2
        go_ret
        exact R.out
end Go.Proofs.Qxb6600910a
