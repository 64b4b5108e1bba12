/-
  The plain reading of a backup code, on lists of octets; a slice of octets that a call builds by append.
-/
import Derived.Test.Qxb6603256aProg
import Derived.WalkKit
import Derived.Deep.OwnRows
import Derived.Deep.AppendLies
import Derived.Laws.MakeOwn
import Derived.Laws.BytesArg
namespace Go.Proofs.Qxb6603256a
open Go.RowKit

/-- A letter or digit, lower case made upper; none: another character. -/
def up (c : Int) : Option Int := if 97 ≤ c ∧ c ≤ 122 then some (c - 32) else if (65 ≤ c ∧ c ≤ 90) ∨ (48 ≤ c ∧ c ≤ 57) then some c else none
/-- Parse: one pass. -/
def parseP (bs : List Int) : List Int → Option (List Int)
  | [] => if bs.length = 10 then some bs else none
  | c :: r => if c = 32 ∨ c = 45 then parseP bs r else match up c with
    | none => none
    | some d => if bs.length = 10 then none else parseP (bs ++ [d]) r
/-- What is left of a text without spaces and hyphens. -/
def kept : List Int → List Int
  | [] => []
  | c :: r => if c = 32 ∨ c = 45 then kept r else c :: kept r
def upL : List Int → Option (List Int)
  | [] => some []
  | c :: r => match up c with
    | none => none
    | some d => (upL r).map (d :: ·)
def modelP (l : List Int) : Option (List Int) := if (kept l).length = 10 then upL (kept l) else none

theorem parseP_eq : ∀ (l bs : List Int), parseP bs l = if bs.length + (kept l).length = 10 then (upL (kept l)).map (bs ++ ·) else none
  | [], bs => by simp [parseP, kept, upL]
  | c :: r, bs => by
    by_cases hc : c = 32 ∨ c = 45
    · simp only [parseP, kept, if_pos hc]; exact parseP_eq r bs
    · simp only [parseP, kept, if_neg hc]
      cases hu : up c with
      | none => simp [upL, hu]
      | some d =>
        simp only [upL, hu, List.length_cons]
        by_cases h10 : bs.length = 10
        · rw [if_pos h10, if_neg (by omega)]
        · rw [if_neg h10, parseP_eq r (bs ++ [d])]
          simp only [List.length_append, List.length_cons, List.length_nil]
          by_cases hl : bs.length + (0 + 1) + (kept r).length = 10
          · rw [if_pos hl, if_pos (by omega), Option.map_map]
            congr 1
            funext x; simp
          · rw [if_neg hl, if_neg (by omega)]
theorem parse_model (l : List Int) : parseP [] l = modelP l := by
  rw [parseP_eq]
  unfold modelP
  simp

/-- A string's octet as a number. -/
def oct (s : ByteArray) (k : Nat) : Int := ((s.data[k]?).map fun b => (b.toNat : Int)).getD 0
theorem get_oct (s : ByteArray) : ∀ (n : Nat) (h : n < s.size), ((s[n]'h).toNat : Int) = oct s n := fun n h => by
  unfold oct
  rw [Array.getElem?_eq_getElem (show n < s.data.size from h)]
  rfl
theorem oct_range (s : ByteArray) (k : Nat) : 0 ≤ oct s k ∧ oct s k ≤ 255 := by
  unfold oct
  cases s.data[k]? with
  | none => simp
  | some b => have := b.toNat_lt; simp; omega
/-- A string's octets. -/
def tx (s : ByteArray) : List Int := (List.range s.size).map (oct s)
theorem tx_len (s : ByteArray) : (tx s).length = s.size := by simp [tx]
theorem tx_at (s : ByteArray) {k : Nat} (h : k < s.size) : (tx s)[k]? = some (oct s k) := by simp [tx, h]
theorem tx_drop (s : ByteArray) {k : Nat} (h : k < s.size) : (tx s).drop k = oct s k :: (tx s).drop (k + 1) := by
  obtain ⟨h1, e1⟩ := List.getElem?_eq_some_iff.1 (tx_at s h)
  rw [List.drop_eq_getElem_cons h1, e1]
theorem tx_end (s : ByteArray) {k : Nat} (h : s.size ≤ k) : (tx s).drop k = [] := List.drop_eq_nil_of_le (by rw [tx_len]; exact h)

theorem parse_sep {bs r : List Int} {c : Int} (h : c = 32 ∨ c = 45) : parseP bs (c :: r) = parseP bs r := by rw [parseP, if_pos h]
theorem parse_bad {bs r : List Int} {c : Int} (h : ¬ (c = 32 ∨ c = 45)) (hu : up c = none) : parseP bs (c :: r) = none := by rw [parseP, if_neg h, hu]
theorem parse_full {bs r : List Int} {c d : Int} (h : ¬ (c = 32 ∨ c = 45)) (hu : up c = some d) (hl : bs.length = 10) : parseP bs (c :: r) = none := by rw [parseP, if_neg h, hu]; exact if_pos hl
theorem parse_next {bs r : List Int} {c d : Int} (h : ¬ (c = 32 ∨ c = 45)) (hu : up c = some d) (hl : bs.length ≠ 10) : parseP bs (c :: r) = parseP (bs ++ [d]) r := by rw [parseP, if_neg h, hu]; exact if_neg hl

theorem kept_sep {r : List Int} {c : Int} (h : c = 32 ∨ c = 45) : kept (c :: r) = kept r := by rw [kept, if_pos h]
theorem kept_next {r : List Int} {c : Int} (h : ¬ (c = 32 ∨ c = 45)) : kept (c :: r) = c :: kept r := by rw [kept, if_neg h]

/-- The result as Go hands it back. -/
def resV : Option (List Int) → Value
  | none => .tuple #[.string ⟨#[]⟩, .bool false]
  | some l => .tuple #[.string (strOfNums l), .bool true]

/-! ### an owned slice -/
theorem Try.info5 : (Try.prog.info? 5).map (fun i => (i.zero, i.size, i.bytes)) = some (some (.int .u8 0), 1, 1) := by kernel_rfl
theorem info_parts : ∃ i, Try.prog.info? 5 = some i ∧ i.zero = some (.int .u8 0) ∧ i.size = 1 ∧ i.bytes = 1 := by
  obtain ⟨i, hi, hz⟩ := Option.map_eq_some_iff.1 Try.info5
  simp only [Prod.mk.injEq] at hz
  exact ⟨i, hi, hz.1, hz.2.1, hz.2.2⟩

def Own (B : Nat) (w : World) (g cap : Nat) (bs : List Int) : Prop := w.ownsRow B 5 1 (.slice (some ⟨g, 0, none⟩) bs.length cap) bs.length (bs.map (Value.int .u8))

theorem bytes_oneCell (bs : List Int) : ∀ u ∈ bs.map (Value.int .u8), u.oneCell' = true := by
  intro u hu
  obtain ⟨n, _, rfl⟩ := List.mem_map.1 hu
  rfl

theorem Own.cell {B : Nat} {w : World} {g cap : Nat} {bs : List Int} (h : Own B w g cap bs) {i : Nat} {n : Int} (hi : bs[i]? = some n) : w.cell? ⟨g, i, none⟩ = some (.int .u8 n) := by
  have hl := (List.getElem?_eq_some_iff.1 hi).1
  rw [World.ownsRow.cellAt h i (by omega)]
  simp [hi]

theorem Own.str {B : Nat} {w : World} {g cap : Nat} {bs : List Int} (h : Own B w g cap bs) (T : TypeId) (hT : Try.prog.underlying T = some .string) : (convert 28 T (.slice (some ⟨g, 0, none⟩) bs.length cap)).run Try.prog w = .ok (.string (strOfNums bs)) w :=
  run_convert_bytes_arg w 28 5 Try.underlying28 Try.underlying5 g 0 bs.length cap bs rfl (fun i hi => by
    have hl : bs[i]? = some (bs[i]'hi) := List.getElem?_eq_getElem hi
    rw [Nat.zero_add, h.cell hl]
    simp [List.getD, hl]) T hT

theorem Own.facts {B : Nat} {w : World} {g cap : Nat} {bs : List Int} (h : Own B w g cap bs) : B ≤ g ∧ g < w.heap.size ∧ bs.length ≤ cap ∧ cap ≤ maxLen := by
  rcases h.2 with ⟨hv, _⟩ | ⟨g', cap', cur, hv, hb, hg, h1, h2, _⟩
  · cases hv
  · injection hv with e1 e2 e3
    injection e1 with e1
    injection e1 with e1
    subst e1; subst e3
    exact ⟨hb, (Array.getElem?_eq_some_iff.1 hg).1, h1, h2⟩

theorem hide {p : Prop} (h : p) : Hid p := h
theorem unhide {p : Prop} (h : Hid p) : p := h
end Go.Proofs.Qxb6603256a
