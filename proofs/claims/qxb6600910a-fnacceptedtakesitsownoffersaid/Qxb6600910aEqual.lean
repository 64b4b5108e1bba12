/-
  (*wire.Transform).Equal
-/
import Derived.Test.Qxb6600910aClone
import Derived.BigQuiet
import Derived.Deep.QuietTactic
import Derived.Laws.BytesArg
import Derived.WalkSmall
namespace Go.Proofs.Qxb6600910a
open Go.RowKit

def eqA (a b : Attr) : Bool := a.ty == b.ty && a.tv == b.tv && a.val == b.val
def eqAs : List Attr → List Attr → Bool
  | [], [] => true
  | a :: l, b :: m => eqA a b && eqAs l m
  | _, _ => false
def eqT (t u : Tr) : Bool := t.ty == u.ty && t.id == u.id && eqAs t.ats u.ats

/-- A transform lies at the address ⟨b, o⟩. -/
def TrAt (ok : Nat → Prop) (w : World) (b o : Nat) (t : Tr) : Prop :=
  ∃ u, w.cell? ⟨b, o, none⟩ = some (.int .u8 t.ty) ∧ w.cell? ⟨b, o + 1, none⟩ = some (.int .u16 t.id) ∧ w.cell? ⟨b, o + 2, none⟩ = some u ∧ AttrsIn ok w u t.ats

theorem run_str {ok : Nat → Prop} {w : World} {v : Value} {bs : List Int} (h : BytesIn ok w v bs) : (convert 33 9 v).run Try.prog w = .ok (.string (strOfNums bs)) w := by
  rcases h with ⟨rfl, rfl⟩ | ⟨b, o, s, cap, rfl, h1, h2, h3⟩
  · exact run_convert_bytes_nil w 33 5 Try.underlying33 Try.underlying5 0 0 9 Try.underlying9
  · by_cases h0 : bs = []
    · subst h0
      rw [run_convert_bytes_string w 33 9 5 _ _ _ Try.underlying33 Try.underlying5 Try.underlying9, run_bytesToString w _ _ cap [] (by simp [loadCells, loadCellsFrom, Sem.run_pure])]
      rfl
    · obtain ⟨n, hn⟩ : ∃ n, bs[0]? = some n := by
        cases bs with
        | nil => exact absurd rfl h0
        | cons x l => exact ⟨x, rfl⟩
      have hs := (h3 0 n hn).1
      subst hs
      exact run_convert_bytes_arg w 33 5 Try.underlying33 Try.underlying5 b o bs.length cap bs rfl (fun i hi => by
        have hl : bs[i]? = some (bs[i]'hi) := List.getElem?_eq_getElem hi
        rw [(h3 i _ hl).2.2.1]
        simp [List.getD, hl]) 9 Try.underlying9

theorem eqAs_iff : ∀ (l m : List Attr), eqAs l m = true ↔ l.length = m.length ∧ ∀ (i : Nat) (a b : Attr), l[i]? = some a → m[i]? = some b → eqA a b = true
  | [], [] => by simp [eqAs]
  | [], b :: m => by simp [eqAs]
  | a :: l, [] => by simp [eqAs]
  | a :: l, b :: m => by
    simp only [eqAs, Bool.and_eq_true, List.length_cons, Nat.add_right_cancel_iff]
    rw [eqAs_iff l m]
    constructor
    · rintro ⟨h0, h1, h2⟩
      refine ⟨h1, fun i x y hx hy => ?_⟩
      cases i with
      | zero => simp at hx hy; subst hx; subst hy; exact h0
      | succ i => exact h2 i x y (by simpa using hx) (by simpa using hy)
    · rintro ⟨h1, h2⟩
      exact ⟨h2 0 a b rfl rfl, h1, fun i x y hx hy => h2 (i + 1) x y (by simpa using hx) (by simpa using hy)⟩

/-- Of the first k attributes each is equal to its fellow. -/
def EqUp (l m : List Attr) (k : Nat) : Prop := ∀ (i : Nat) (a b : Attr), i < k → l[i]? = some a → m[i]? = some b → eqA a b = true
theorem EqUp.zero (l m : List Attr) : EqUp l m 0 := fun i a b h => by omega
theorem EqUp.succ {l m : List Attr} {k : Nat} {x y : Attr} (h : EqUp l m k) (hx : l[k]? = some x) (hy : m[k]? = some y) (e : eqA x y = true) : EqUp l m (k + 1) := fun i a b hi ha hb => by
  by_cases g : i = k
  · subst g; rw [hx] at ha; rw [hy] at hb; injection ha with ha; injection hb with hb; subst ha; subst hb; exact e
  · exact h i a b (by omega) ha hb
theorem EqUp.all {l m : List Attr} (h : EqUp l m l.length) (hl : l.length = m.length) : eqAs l m = true :=
  (eqAs_iff l m).2 ⟨hl, fun i a b ha hb => h i a b (List.getElem?_eq_some_iff.1 ha).1 ha hb⟩
theorem eqAs_not {l m : List Attr} {k : Nat} {x y : Attr} (hx : l[k]? = some x) (hy : m[k]? = some y) (e : eqA x y = false) : eqAs l m = false := by
  cases h : eqAs l m with
  | false => rfl
  | true => have := ((eqAs_iff l m).1 h).2 k x y hx hy; rw [e] at this; cases this

set_option maxRecDepth 100000 in
set_option maxHeartbeats 1000000 in
theorem equal45_ty (b o b' o' : Nat) (t u : Tr) (w : World) {ok ok' : Nat → Prop} (ht : TrAt ok w b o t) (hu : TrAt ok' w b' o' u) (hne : t.ty ≠ u.ty) :
    Calls Try.prog 45 #[.pointer (some ⟨b, o, none⟩), .pointer (some ⟨b', o', none⟩)] w fun e w' => e = .returned (.bool false) ∧ Below w.heap.size w w' := by
  obtain ⟨x, c0, c1, c2, hx⟩ := ht
  obtain ⟨y, d0, d1, d2, hy⟩ := hu
  have h1 : (t.ty != u.ty) = true := by simpa using hne
  clear hne hx hy
  go_enter Try.func45, Try.ntmps45
  go_wp2
  go_quiet (fail)
  go_wp2
  go_ret
  exact ⟨rfl, below_drewN (Below.refl _ _) _⟩

set_option maxRecDepth 100000 in
set_option maxHeartbeats 1000000 in
theorem equal45_id (b o b' o' : Nat) (t u : Tr) (w : World) {ok ok' : Nat → Prop} (ht : TrAt ok w b o t) (hu : TrAt ok' w b' o' u) (he : t.ty = u.ty) (hne : t.id ≠ u.id) :
    Calls Try.prog 45 #[.pointer (some ⟨b, o, none⟩), .pointer (some ⟨b', o', none⟩)] w fun e w' => e = .returned (.bool false) ∧ Below w.heap.size w w' := by
  obtain ⟨x, c0, c1, c2, hx⟩ := ht
  obtain ⟨y, d0, d1, d2, hy⟩ := hu
  have h0 : (t.ty != u.ty) = false := by simpa using he
  have h1 : (t.id != u.id) = true := by simpa using hne
  clear hne hx hy he
  go_enter Try.func45, Try.ntmps45
  go_wp2
  go_quiet (fail)
  go_wp2
  go_ret
  exact ⟨rfl, below_drewN (Below.refl _ _) _⟩

set_option maxRecDepth 100000 in
set_option maxHeartbeats 1000000 in
theorem equal45_len (b o b' o' : Nat) (t u : Tr) (w : World) {ok ok' : Nat → Prop} (ht : TrAt ok w b o t) (hu : TrAt ok' w b' o' u) (he : t.ty = u.ty) (he2 : t.id = u.id) (hne : t.ats.length ≠ u.ats.length) :
    Calls Try.prog 45 #[.pointer (some ⟨b, o, none⟩), .pointer (some ⟨b', o', none⟩)] w fun e w' => e = .returned (.bool false) ∧ Below w.heap.size w w' := by
  obtain ⟨x, c0, c1, c2, hx⟩ := ht
  obtain ⟨y, d0, d1, d2, hy⟩ := hu
  obtain ⟨xa, xc, rfl, _⟩ := hx.form
  obtain ⟨ya, yc, rfl, _⟩ := hy.form
  have h0 : (t.ty != u.ty) = false := by simpa using he
  have h1 : (t.id != u.id) = false := by simpa using he2
  have h2 : ((t.ats.length : Int) != (u.ats.length : Int)) = true := by simp; omega
  clear hne hx hy he he2
  go_enter Try.func45, Try.ntmps45
  go_wp2
  go_quiet (fail)
  go_wp2
  go_ret
  exact ⟨rfl, below_drewN (Below.refl _ _) _⟩

end Go.Proofs.Qxb6600910a
