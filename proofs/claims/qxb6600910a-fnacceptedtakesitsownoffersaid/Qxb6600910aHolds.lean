/-
  suites.holds and what it calls: the two closures, slices.IndexFunc, slices.ContainsFunc.
-/
import Derived.Test.Qxb6600910aEqualL
namespace Go.Proofs.Qxb6600910a
open Go.RowKit

set_option maxHeartbeats 400000 in
theorem clos43 (b o : Nat) (t x : Tr) (u : Value) (w : World) (h : w.cell? ⟨b, o, none⟩ = some (.int .u8 t.ty)) :
    Calls Try.prog 43 #[.agg #[.int .u8 x.ty, .int .u16 x.id, u], .pointer (some ⟨b, o, none⟩)] w fun e w' => e = .returned (.bool (x.ty == t.ty)) ∧ Below w.heap.size w w' := by
  have hA := cellA h
  go_enter Try.func43, Try.ntmps43
  go_wp2
  go_ret
  exact ⟨rfl, (Below.refl _ _).alloc (Nat.le_refl _) _⟩

theorem TrAt.keep {ok : Nat → Prop} {w w' : World} {b o : Nat} {t : Tr} (k : Below w.heap.size w w') (h : TrAt ok w b o t) : TrAt ok w' b o t := by
  obtain ⟨u, h0, h1, h2, h3⟩ := h
  have kk := keeps_of_below (fun _ => True) k
  exact ⟨u, kk _ _ trivial h0, kk _ _ trivial h1, kk _ _ trivial h2, h3.keep (keeps_of_below _ k)⟩

/-- A transform that has just been laid in a box of its own. -/
theorem trAt_box {ok : Nat → Prop} {w : World} {t : Tr} {u : Value} (h : AttrsIn ok w u t.ats) (ty : TypeId) : TrAt ok (w.alloc (.cells #[.int .u8 t.ty, .int .u16 t.id, u] ty)) w.heap.size 0 t := by
  refine ⟨u, ?_, ?_, ?_, h.keep (keeps_alloc _ _ _)⟩ <;> simp

set_option maxHeartbeats 400000 in
theorem clos44 {ok ok' : Nat → Prop} (b o : Nat) (t x : Tr) (u : Value) (w : World) (h : TrAt ok w b o t) (hu : AttrsIn ok' w u x.ats) :
    Calls Try.prog 44 #[.agg #[.int .u8 x.ty, .int .u16 x.id, u], .pointer (some ⟨b, o, none⟩)] w fun e w' => e = .returned (.bool (eqT x t)) ∧ Below w.heap.size w w' := by
  have hb : Below w.heap.size w (w.alloc (.cells #[.int .u8 x.ty, .int .u16 x.id, u] 61)) := (Below.refl _ _).alloc (Nat.le_refl _) _
  have H1 : Hid (TrAt ok' (w.alloc (.cells #[.int .u8 x.ty, .int .u16 x.id, u] 61)) w.heap.size 0 x) := trAt_box hu 61
  have H2 : Hid (TrAt ok (w.alloc (.cells #[.int .u8 x.ty, .int .u16 x.id, u] 61)) b o t) := h.keep hb
  obtain ⟨ua, uc, rfl, _⟩ := hu.form
  clear h hu
  go_enter Try.func44, Try.ntmps44
  go_wp2_with fail
  refine (equal45 w.heap.size 0 b o x t _ (by exact H1.out) (by exact H2.out)).mono ?_
  rintro e w' ⟨rfl, hb'⟩
  go_wp2
  go_ret
  exact ⟨rfl, hb.trans (hb'.mono (by simp))⟩

/-- What slices.IndexFunc answers. -/
def IRes (l : List Tr) (p : Tr → Bool) (e : Ending) : Prop := ∃ r : Int, e = .returned (.int .i64 r) ∧ -1 ≤ r ∧ (0 ≤ r ↔ l.any p = true)

/-- Of the first k none is hit. -/
def NoneUp (l : List Tr) (p : Tr → Bool) (k : Nat) : Prop := ∀ (i : Nat) (t : Tr), i < k → l[i]? = some t → p t = false
theorem NoneUp.zero (l : List Tr) (p : Tr → Bool) : NoneUp l p 0 := fun i t h => by omega
theorem NoneUp.succ {l : List Tr} {p : Tr → Bool} {k : Nat} {x : Tr} (h : NoneUp l p k) (hx : l[k]? = some x) (e : p x = false) : NoneUp l p (k + 1) := fun i t hi ht => by
  by_cases g : i = k
  · subst g; rw [hx] at ht; injection ht with ht; subst ht; exact e
  · exact h i t (by omega) ht
theorem NoneUp.all {l : List Tr} {p : Tr → Bool} (h : NoneUp l p l.length) : l.any p = false := by
  rw [List.any_eq_false]
  intro x hx
  obtain ⟨i, hi, rfl⟩ := List.getElem_of_mem hx
  have := h i _ hi (List.getElem?_eq_getElem hi)
  simp [this]
theorem any_hit {l : List Tr} {p : Tr → Bool} {k : Nat} {x : Tr} (hx : l[k]? = some x) (e : p x = true) : l.any p = true := by
  rw [List.any_eq_true]
  exact ⟨x, List.mem_of_getElem? hx, e⟩

set_option maxRecDepth 100000 in
set_option maxHeartbeats 400000 in
theorem index50 {ok : Nat → Prop} (F : Nat) (cp : Value) (p : Tr → Bool) (a : Option Addr) (len cap : Nat) (l : List Tr) (w : World) (h : TrsIn ok w (.slice a len cap) l)
    (hcf : ∀ args W, (callFunc F args).run Try.prog W = .ok (.enter F args) W)
    (hF : ∀ (W : World) (x : Tr) (u : Value), Below w.heap.size w W → AttrsIn ok W u x.ats → Calls Try.prog F #[.agg #[.int .u8 x.ty, .int .u16 x.id, u], cp] W fun e w' => e = .returned (.bool (p x)) ∧ Below W.heap.size W w') :
    Calls Try.prog 50 #[.slice a len cap, .func (.func F) #[] #[cp]] w fun e w' => IRes l p e ∧ Below w.heap.size w w' := by
  obtain ⟨hlen, hlc, hcap⟩ := h.len
  unfold maxLen at hcap
  have hl63 : len ≤ 9223372036854775807 := by omega
  have H : Hid (TrsIn ok w (.slice a len cap) l ∧ len = l.length) := ⟨h, hlen⟩
  have HF : Hid (∀ (W : World) (x : Tr) (u : Value), Below w.heap.size w W → AttrsIn ok W u x.ats → Calls Try.prog F #[.agg #[.int .u8 x.ty, .int .u16 x.id, u], cp] W fun e w' => e = .returned (.bool (p x)) ∧ Below W.heap.size W w') := hF
  clear hF h hlen hlc hcap
  go_enter Try.func50, Try.ntmps50
  go_wp2
  go_loopw [8] (fun i wr => ∃ k : Nat, k ≤ len ∧ i = .int .i64 k ∧ NoneUp l p k ∧ Below w.heap.size w wr) (fun i _ => len - (intOf i).toNat)
  case atStart => exact ⟨0, Nat.zero_le _, rfl, NoneUp.zero _ _, Below.refl _ _⟩
  case round =>
    obtain ⟨k, hk, rfl, hno, hbel⟩ := hrel
    by_cases hlt : k < len
    · obtain ⟨b, o, x, u, rfl, hx, _, c0, c1, c2, hu, _⟩ := H.out.1.at hlt
      have c0' : wr.cell? ⟨b, o + k * 3, none⟩ = some (.int .u8 x.ty) := by rw [hbel.cell (by exact cell_lt c0)]; exact c0
      have c1' : wr.cell? ⟨b, o + k * 3 + 1, none⟩ = some (.int .u16 x.id) := by rw [hbel.cell (by exact cell_lt c1)]; exact c1
      have c2' : wr.cell? ⟨b, o + k * 3 + 2, none⟩ = some u := by rw [hbel.cell (by exact cell_lt c2)]; exact c2
      have hc := HF.out wr x u hbel (hu.keep (keeps_of_below _ hbel))
      obtain ⟨ua, uc, rfl, _⟩ := hu.form
      have HX : Hid (l[k]? = some x) := hx
      clear c0 c1 c2 hu hx
      go_wp2_with fail
      refine hc.mono ?_
      rintro e w' ⟨rfl, hb'⟩
      have hb2 := hbel.trans (hb'.mono hbel.size)
      clear hc c0' c1' c2' hb' hbel
      cases hp : p x with
      | true =>
        have R : Hid (IRes l p (.returned (.int .i64 (k : Int)))) := ⟨k, rfl, by omega, by rw [any_hit HX.out hp]; simp⟩
        clear hp
        go_wp2
        go_ret
        exact ⟨R.out, hb2⟩
      | false =>
        have R : Hid (NoneUp l p (k + 1)) := hno.succ HX.out hp
        clear hp hno
        go_wp2
        go_roundw
        case rel => exact ⟨k + 1, by omega, by go_num, R.out, hb2⟩
        case measure => simp [intOf]; omega
    · have R : Hid (IRes l p (.returned (.int .i64 (-1)))) := ⟨-1, rfl, by omega, by
        have hk' : k = l.length := by have := H.out.2; omega
        rw [hk'] at hno; rw [hno.all]; simp⟩
      clear hno
      go_wp2
      go_ret
      exact ⟨R.out, hbel⟩

set_option maxRecDepth 100000 in
set_option maxHeartbeats 400000 in
theorem contains42 {ok : Nat → Prop} (F : Nat) (cp : Value) (p : Tr → Bool) (a : Option Addr) (len cap : Nat) (l : List Tr) (w : World) (h : TrsIn ok w (.slice a len cap) l)
    (hcf : ∀ args W, (callFunc F args).run Try.prog W = .ok (.enter F args) W)
    (hF : ∀ (W : World) (x : Tr) (u : Value), Below w.heap.size w W → AttrsIn ok W u x.ats → Calls Try.prog F #[.agg #[.int .u8 x.ty, .int .u16 x.id, u], cp] W fun e w' => e = .returned (.bool (p x)) ∧ Below W.heap.size W w') :
    Calls Try.prog 42 #[.slice a len cap, .func (.func F) #[] #[cp]] w fun e w' => e = .returned (.bool (l.any p)) ∧ Below w.heap.size w w' := by
  have hc := index50 F cp p a len cap l w h hcf hF
  clear h hcf hF
  go_enter Try.func42, Try.ntmps42
  go_wp2_with fail
  refine hc.mono ?_
  rintro e w' ⟨⟨r, rfl, h0, h1⟩, hb⟩
  clear hc
  by_cases hr : 0 ≤ r
  · have R : Hid (l.any p = true) := h1.1 hr
    clear h1
    go_wp2
    go_ret
    exact ⟨ret_bool R.out.symm, hb⟩
  · have R : Hid (l.any p = false) := Bool.eq_false_iff.2 (fun g => hr (h1.2 g))
    clear h1
    go_wp2
    go_ret
    exact ⟨ret_bool (by rw [R.out]; exact decide_eq_false (by omega)), hb⟩

theorem cf43 (args : Array Value) (W : World) : (callFunc 43 args).run Try.prog W = .ok (.enter 43 args) W := by kernel_rfl
theorem cf44 (args : Array Value) (W : World) : (callFunc 44 args).run Try.prog W = .ok (.enter 44 args) W := by kernel_rfl

/-- What suites.holds says, on plain data. -/
def holdsP (l m : List Tr) : Bool := l.all (fun t => m.any (fun x => x.ty == t.ty)) && m.all (fun x => l.any (fun t => eqT t x))

/-- Of the first k each is hit. -/
def AllUp (l : List Tr) (p : Tr → Bool) (k : Nat) : Prop := ∀ (i : Nat) (t : Tr), i < k → l[i]? = some t → p t = true
theorem AllUp.zero (l : List Tr) (p : Tr → Bool) : AllUp l p 0 := fun i t h => by omega
theorem AllUp.succ {l : List Tr} {p : Tr → Bool} {k : Nat} {x : Tr} (h : AllUp l p k) (hx : l[k]? = some x) (e : p x = true) : AllUp l p (k + 1) := fun i t hi ht => by
  by_cases g : i = k
  · subst g; rw [hx] at ht; injection ht with ht; subst ht; exact e
  · exact h i t (by omega) ht
theorem AllUp.all {l : List Tr} {p : Tr → Bool} (h : AllUp l p l.length) : l.all p = true := by
  rw [List.all_eq_true]
  intro x hx
  obtain ⟨i, hi, rfl⟩ := List.getElem_of_mem hx
  exact h i _ hi (List.getElem?_eq_getElem hi)
theorem all_miss {l : List Tr} {p : Tr → Bool} {k : Nat} {x : Tr} (hx : l[k]? = some x) (e : p x = false) : l.all p = false := by
  rw [List.all_eq_false]
  exact ⟨x, List.mem_of_getElem? hx, by rw [e]; simp⟩

set_option maxRecDepth 100000 in
set_option maxHeartbeats 1000000 in
theorem holds35 {ok ok' : Nat → Prop} (a a' : Option Addr) (len cap len' cap' : Nat) (l m : List Tr) (w : World) (h : TrsIn ok w (.slice a len cap) l) (h' : TrsIn ok' w (.slice a' len' cap') m) :
    Calls Try.prog 35 #[.slice a len cap, .slice a' len' cap'] w fun e w' => e = .returned (.bool (holdsP l m)) ∧ Below w.heap.size w w' := by
  obtain ⟨hlen, hlc, hcap⟩ := h.len
  obtain ⟨hlen', hlc', hcap'⟩ := h'.len
  unfold maxLen at hcap hcap'
  have hl63 : len ≤ 9223372036854775807 := by omega
  have hl63' : len' ≤ 9223372036854775807 := by omega
  have H : Hid (TrsIn ok w (.slice a len cap) l ∧ len = l.length) := ⟨h, hlen⟩
  have H' : Hid (TrsIn ok' w (.slice a' len' cap') m ∧ len' = m.length) := ⟨h', hlen'⟩
  clear h hlen hlc hcap h' hlen' hlc' hcap'
  go_enter Try.func35, Try.ntmps35
  go_wp2
  go_loopw [11] (fun i wr => ∃ k : Nat, k ≤ len ∧ i = .int .i64 k ∧ AllUp l (fun t => m.any (fun x => x.ty == t.ty)) k ∧ Below w.heap.size w wr) (fun i _ => len - (intOf i).toNat)
  case atStart => exact ⟨0, Nat.zero_le _, rfl, AllUp.zero _ _, Below.refl _ _⟩
  case round =>
    obtain ⟨k, hk, rfl, hall, hbel⟩ := hrel
    by_cases hlt : k < len
    · obtain ⟨b, o, x, u, rfl, hx, _, c0, c1, c2, hu, _⟩ := H.out.1.at hlt
      have c0' : wr.cell? ⟨b, o + k * 3, none⟩ = some (.int .u8 x.ty) := by rw [hbel.cell (by exact cell_lt c0)]; exact c0
      have c1' : wr.cell? ⟨b, o + k * 3 + 1, none⟩ = some (.int .u16 x.id) := by rw [hbel.cell (by exact cell_lt c1)]; exact c1
      have c2' : wr.cell? ⟨b, o + k * 3 + 2, none⟩ = some u := by rw [hbel.cell (by exact cell_lt c2)]; exact c2
      obtain ⟨ua, uc, rfl, _⟩ := hu.form
      have hb1 : Below w.heap.size w (wr.alloc (.cells #[.int .u8 x.ty, .int .u16 x.id, .slice ua x.ats.length uc] 61)) := hbel.alloc hbel.size _
      have HB : Hid (Below w.heap.size w (wr.alloc (.cells #[.int .u8 x.ty, .int .u16 x.id, .slice ua x.ats.length uc] 61)) ∧ l[k]? = some x ∧ TrAt ok (wr.alloc (.cells #[.int .u8 x.ty, .int .u16 x.id, .slice ua x.ats.length uc] 61)) wr.heap.size 0 x) :=
        ⟨hb1, hx, trAt_box (hu.keep (keeps_of_below _ hbel)) 61⟩
      clear c0 c1 c2 hu hx hb1
      go_wp2_with fail
      refine (contains42 43 (.pointer (some ⟨wr.heap.size, 0, none⟩)) (fun y => y.ty == x.ty) a' len' cap' m _ (by exact H'.out.1.keep (keeps_of_below _ HB.out.1)) cf43 (fun W y u hbW _ => clos43 wr.heap.size 0 x y u W (by
        obtain ⟨u, g0, _⟩ := HB.out.2.2.keep hbW
        exact g0))).mono ?_
      rintro e w2 ⟨rfl, hb2⟩
      have hb3 : Below w.heap.size w w2 := HB.out.1.trans (hb2.mono HB.out.1.size)
      clear hb2 c0' c1' c2' hbel
      cases hp : m.any (fun y => y.ty == x.ty) with
      | true =>
        have R : Hid (AllUp l (fun t => m.any (fun x => x.ty == t.ty)) (k + 1)) := hall.succ HB.out.2.1 hp
        clear hp hall
        go_wp2
        go_roundw
        case rel => exact ⟨k + 1, by omega, by go_num, R.out, hb3⟩
        case measure => simp [intOf]; omega
      | false =>
        have R : Hid (holdsP l m = false) := by
          show holdsP l m = false
          unfold holdsP
          rw [all_miss HB.out.2.1 hp]; rfl
        clear hp hall
        go_wp2
        go_ret
        exact ⟨ret_bool R.out.symm, hb3⟩
    · have HA : Hid (l.all (fun t => m.any (fun x => x.ty == t.ty)) = true) := by
        have hk' : k = l.length := by have := H.out.2; omega
        rw [hk'] at hall; exact hall.all
      rename World => w1
      clear hall
      go_wp2
      go_loopw [22] (fun i wr => ∃ k : Nat, k ≤ len' ∧ i = .int .i64 k ∧ AllUp m (fun x => l.any (fun t => eqT t x)) k ∧ Below w.heap.size w wr) (fun i _ => len' - (intOf i).toNat)
      case atStart => exact ⟨0, Nat.zero_le _, rfl, AllUp.zero _ _, hbel⟩
      case round =>
        clear hbel hlt hk
        obtain ⟨k, hk, rfl, hall, hbel⟩ := hrel
        by_cases hlt : k < len'
        · obtain ⟨b, o, x, u, rfl, hx, _, c0, c1, c2, hu, _⟩ := H'.out.1.at hlt
          have c0' : wr.cell? ⟨b, o + k * 3, none⟩ = some (.int .u8 x.ty) := by rw [hbel.cell (by exact cell_lt c0)]; exact c0
          have c1' : wr.cell? ⟨b, o + k * 3 + 1, none⟩ = some (.int .u16 x.id) := by rw [hbel.cell (by exact cell_lt c1)]; exact c1
          have c2' : wr.cell? ⟨b, o + k * 3 + 2, none⟩ = some u := by rw [hbel.cell (by exact cell_lt c2)]; exact c2
          obtain ⟨ua, uc, rfl, _⟩ := hu.form
          have hb1 : Below w.heap.size w (wr.alloc (.cells #[.int .u8 x.ty, .int .u16 x.id, .slice ua x.ats.length uc] 61)) := hbel.alloc hbel.size _
          have HB : Hid (Below w.heap.size w (wr.alloc (.cells #[.int .u8 x.ty, .int .u16 x.id, .slice ua x.ats.length uc] 61)) ∧ m[k]? = some x ∧ TrAt ok' (wr.alloc (.cells #[.int .u8 x.ty, .int .u16 x.id, .slice ua x.ats.length uc] 61)) wr.heap.size 0 x) :=
            ⟨hb1, hx, trAt_box (hu.keep (keeps_of_below _ hbel)) 61⟩
          clear c0 c1 c2 hu hx hb1
          go_wp2_with fail
          refine (contains42 44 (.pointer (some ⟨wr.heap.size, 0, none⟩)) (fun y => eqT y x) a len cap l _ (by exact H.out.1.keep (keeps_of_below _ HB.out.1)) cf44 (fun W y u hbW hu => clos44 wr.heap.size 0 x y u W (HB.out.2.2.keep hbW) hu)).mono ?_
          rintro e w2 ⟨rfl, hb2⟩
          have hb3 : Below w.heap.size w w2 := HB.out.1.trans (hb2.mono HB.out.1.size)
          clear hb2 c0' c1' c2' hbel
          cases hp : l.any (fun y => eqT y x) with
          | true =>
            have R : Hid (AllUp m (fun x => l.any (fun t => eqT t x)) (k + 1)) := hall.succ HB.out.2.1 hp
            clear hp hall
            go_wp2
            go_roundw
            case rel => exact ⟨k + 1, by omega, by go_num, R.out, hb3⟩
            case measure => simp [intOf]; omega
          | false =>
            have R : Hid (holdsP l m = false) := by
              show holdsP l m = false
              unfold holdsP
              rw [all_miss HB.out.2.1 hp]; simp
            clear hp hall
            go_wp2
            go_ret
            exact ⟨ret_bool R.out.symm, hb3⟩
        · have R : Hid (holdsP l m = true) := by
            show holdsP l m = true
            have hk' : k = m.length := by have := H'.out.2; omega
            rw [hk'] at hall
            unfold holdsP
            rw [HA.out, hall.all]; rfl
          clear hall
          go_wp2
          go_ret
          exact ⟨ret_bool R.out.symm, hbel⟩

set_option maxHeartbeats 400000 in
theorem holds12 {ok ok' : Nat → Prop} (a a' : Option Addr) (len cap len' cap' : Nat) (l m : List Tr) (w : World) (h : TrsIn ok w (.slice a len cap) l) (h' : TrsIn ok' w (.slice a' len' cap') m) :
    Calls Try.prog 12 #[.slice a len cap, .slice a' len' cap'] w fun e w' => e = .returned (.bool (holdsP l m)) ∧ Below w.heap.size w w' := by
  have hc := holds35 a a' len cap len' cap' l m w h h'
  clear h h'
  go_enter Try.func12, Try.ntmps12
  go_wp2_with fail
  refine hc.mono ?_
  rintro e w' ⟨rfl, hb⟩
  clear hc
  go_wp2
  go_ret
  exact ⟨rfl, hb⟩

end Go.Proofs.Qxb6600910a
