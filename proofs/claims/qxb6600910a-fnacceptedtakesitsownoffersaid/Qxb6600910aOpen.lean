/-
  From the form's reading of an argument to what the walks are told of it.
-/
import Derived.Test.Qxb6600910aBase
import Derived.ProofKit
import Derived.OpenShut
import Derived.Deep.Strs
namespace Go.Proofs.Qxb6600910a
open Go.ChangeShapes Go.WideShapes Go.ChangeAt Go.RowKit

theorem Try.cells5 : Try.prog.cellsOf 5 = 1 := by kernel_rfl
theorem Try.cells52 : Try.prog.cellsOf 52 = 1 := by kernel_rfl
theorem Try.cells4 : Try.prog.cellsOf 4 = 1 := by kernel_rfl
theorem Try.cells33 : Try.prog.cellsOf 33 = 1 := by kernel_rfl
theorem Try.cells53 : Try.prog.cellsOf 53 = 1 := by kernel_rfl
theorem Try.cells64 : Try.prog.cellsOf 64 = 3 := by kernel_rfl
theorem Try.cells55 : Try.prog.cellsOf 55 = 3 := by kernel_rfl

section
variable {H : Type} {enc : TypeId × Value → H} {w : World} {base : Nat} {spare : Nat → Bool} {held : Bool}

theorem get_map_range {α : Type} {n : Nat} {f : Nat → α} {i : Nat} {a : α} (h : ((List.range n).map f)[i]? = some a) : i < n ∧ a = f i := by
  have hi := (List.getElem?_eq_some_iff.1 h).1
  simp at hi
  refine ⟨hi, ?_⟩
  simp [hi] at h
  exact h.symm

theorem open_bytes {fuel : Nat} {cs : List Value} {x : DataW H × List MemPlace} (h : DataW.trod enc Try.prog w base spare held fuel 33 cs = some x) :
    ∃ v bs, cs = [v] ∧ BytesIn (fun _ => True) w v bs := by
  rcases open_ints Try.underlying33 Try.underlying5 Try.cells5 h with ⟨rfl, _⟩ | ⟨a, len, cap, zs, rfl, _, hl, hm, hz, _, hcell, hwz⟩
  · exact ⟨_, [], rfl, .inl ⟨rfl, rfl⟩⟩
  · have hle : len ≤ zs.length := by rw [hz]; split <;> omega
    have hlen : (zs.take len).length = len := by rw [List.length_take]; omega
    obtain ⟨b, o, s⟩ := a
    refine ⟨_, zs.take len, rfl, .inr ⟨b, o, s, cap, by rw [hlen], by omega, hm, fun i n hi => ?_⟩⟩
    have hil : i < len := by have := (List.getElem?_eq_some_iff.1 hi).1; omega
    rw [List.getElem?_take_of_lt hil] at hi
    have hc := hcell i (by omega)
    have hs : s = none := by
      have := World.cell?_spot (hcell 0 (by omega))
      simpa [Addr.add] using this
    subst hs
    rw [add_plain] at hc
    refine ⟨rfl, trivial, ?_, bounds_u8 (hwz n (List.mem_of_getElem? hi))⟩
    rw [hc, List.getD_eq_getElem?_getD, hi]; rfl

theorem three {cs : List Value} (h : cs.length = 3) : ∃ a b c, cs = [a, b, c] := by
  match cs, h with
  | [a, b, c], _ => exact ⟨a, b, c, rfl⟩

theorem open_attrs {fuel : Nat} {cs : List Value} {x : DataW H × List MemPlace} (h : DataW.trod enc Try.prog w base spare held fuel 53 cs = some x) :
    ∃ v l, cs = [v] ∧ AttrsIn (fun _ => True) w v l := by
  rcases Go.Deep.open_slice Try.underlying53 h with ⟨rfl, _⟩ | ⟨a, len, cap, m, n, D, Pl, rfl, hb, hl, hm, hmm, _, hx⟩
  · exact ⟨_, [], rfl, .inl ⟨rfl, rfl⟩⟩
  · have hle : len ≤ m := by rw [hmm]; split <;> omega
    obtain ⟨b, o, s⟩ := a
    have hspot : 0 < len → s = none := fun h0 => by
      obtain ⟨cs', h1, h2⟩ := hx 0 (by omega)
      rw [Try.cells64] at h1
      obtain ⟨_, hlen, hcell⟩ := World.cells?_some h1
      obtain ⟨v0, v1, v2, rfl⟩ := three hlen
      have := World.cell?_spot (hcell 0 (by omega))
      simpa [Addr.add] using this
    obtain ⟨f, hf⟩ := @Go.Deep.choose_lt Attr ⟨⟨0, false, []⟩⟩ len (fun i t => s = none ∧ w.cell? ⟨b, o + i * 3, none⟩ = some (.int .u16 t.ty) ∧
      w.cell? ⟨b, o + i * 3 + 1, none⟩ = some (.bool t.tv) ∧ 0 ≤ t.ty ∧ t.ty ≤ 65535 ∧ ∃ u, w.cell? ⟨b, o + i * 3 + 2, none⟩ = some u ∧ BytesIn (fun _ => True) w u t.val) (fun i hi => by
        obtain ⟨cs', h1, h2⟩ := hx i (by omega)
        rw [Try.cells64] at h1
        obtain ⟨_, hlen, hcell⟩ := World.cells?_some h1
        obtain ⟨v0, v1, v2, rfl⟩ := three hlen
        obtain ⟨y0, y1, y2, n', _, _, t0, t1, t2⟩ := Go.Deep.trod_struct3 Try.underlying64 h2
        simp only [Try.cells52, Try.cells4, Try.cells33, List.drop_zero, List.drop_succ_cons, List.take_succ_cons, List.take_zero] at t0 t1 t2
        obtain ⟨n0, e0, _, wf0⟩ := DataW.trod_int Try.underlying52 t0
        obtain ⟨n1, e1, _⟩ := DataW.trod_bool Try.underlying4 t1
        obtain ⟨u, bs, e2, hu⟩ := open_bytes t2
        simp at e0 e1 e2
        subst e0 e1 e2
        have g0 := hcell 0 (by omega)
        have g1 := hcell 1 (by omega)
        have g2 := hcell 2 (by omega)
        simp only [List.getElem?_cons_zero, List.getElem?_cons_succ] at g0 g1 g2
        have hs : s = none := hspot (by omega)
        subst hs
        rw [add_plain, add_plain] at g0 g1 g2
        exact ⟨⟨n0, n1, bs⟩, rfl, g0, g1, (bounds_u16 wf0).1, (bounds_u16 wf0).2, _, g2, hu⟩)
    refine ⟨_, (List.range len).map f, rfl, .inr ⟨b, o, s, cap, by simp, by simpa using hl, hm, fun i t hi => ?_⟩⟩
    obtain ⟨hil, rfl⟩ := get_map_range hi
    obtain ⟨e, c0, r⟩ := hf i hil
    exact ⟨e, trivial, c0, r⟩

theorem open_trs {fuel : Nat} {cs : List Value} {x : DataW H × List MemPlace} (h : DataW.trod enc Try.prog w base spare held fuel 22 cs = some x) :
    ∃ v l, cs = [v] ∧ TrsIn (fun _ => True) w v l := by
  rcases Go.Deep.open_slice Try.underlying22 h with ⟨rfl, _⟩ | ⟨a, len, cap, m, n, D, Pl, rfl, hb, hl, hm, hmm, _, hx⟩
  · exact ⟨_, [], rfl, .inl ⟨rfl, rfl⟩⟩
  · have hle : len ≤ m := by rw [hmm]; split <;> omega
    obtain ⟨b, o, s⟩ := a
    have hspot : 0 < len → s = none := fun h0 => by
      obtain ⟨cs', h1, h2⟩ := hx 0 (by omega)
      rw [Try.cells55] at h1
      obtain ⟨_, hlen, hcell⟩ := World.cells?_some h1
      obtain ⟨v0, v1, v2, rfl⟩ := three hlen
      have := World.cell?_spot (hcell 0 (by omega))
      simpa [Addr.add] using this
    obtain ⟨f, hf⟩ := @Go.Deep.choose_lt Tr ⟨⟨0, 0, []⟩⟩ len (fun i t => s = none ∧ w.cell? ⟨b, o + i * 3, none⟩ = some (.int .u8 t.ty) ∧
      w.cell? ⟨b, o + i * 3 + 1, none⟩ = some (.int .u16 t.id) ∧ 0 ≤ t.ty ∧ t.ty ≤ 255 ∧ 0 ≤ t.id ∧ t.id ≤ 65535 ∧ ∃ u, w.cell? ⟨b, o + i * 3 + 2, none⟩ = some u ∧ AttrsIn (fun _ => True) w u t.ats) (fun i hi => by
        obtain ⟨cs', h1, h2⟩ := hx i (by omega)
        rw [Try.cells55] at h1
        obtain ⟨_, hlen, hcell⟩ := World.cells?_some h1
        obtain ⟨v0, v1, v2, rfl⟩ := three hlen
        obtain ⟨y0, y1, y2, n', _, _, t0, t1, t2⟩ := Go.Deep.trod_struct3 Try.underlying55 h2
        simp only [Try.cells52, Try.cells5, Try.cells53, List.drop_zero, List.drop_succ_cons, List.take_succ_cons, List.take_zero] at t0 t1 t2
        obtain ⟨n0, e0, _, wf0⟩ := DataW.trod_int Try.underlying5 t0
        obtain ⟨n1, e1, _, wf1⟩ := DataW.trod_int Try.underlying52 t1
        obtain ⟨u, bs, e2, hu⟩ := open_attrs t2
        simp at e0 e1 e2
        subst e0 e1 e2
        have g0 := hcell 0 (by omega)
        have g1 := hcell 1 (by omega)
        have g2 := hcell 2 (by omega)
        simp only [List.getElem?_cons_zero, List.getElem?_cons_succ] at g0 g1 g2
        have hs : s = none := hspot (by omega)
        subst hs
        rw [add_plain, add_plain] at g0 g1 g2
        exact ⟨⟨n0, n1, bs⟩, rfl, g0, g1, (bounds_u8 wf0).1, (bounds_u8 wf0).2, (bounds_u16 wf1).1, (bounds_u16 wf1).2, _, g2, hu⟩)
    refine ⟨_, (List.range len).map f, rfl, .inr ⟨b, o, s, cap, by simp, by simpa using hl, hm, fun i t hi => ?_⟩⟩
    obtain ⟨hil, rfl⟩ := get_map_range hi
    obtain ⟨e, c0, r⟩ := hf i hil
    exact ⟨e, trivial, c0, r⟩
end
end Go.Proofs.Qxb6600910a
