/-
  (*wire.Transform).Equal: the loop over the attributes, and the whole.
-/
import Derived.Test.Qxb6600910aEqual
namespace Go.Proofs.Qxb6600910a
open Go.RowKit

/-- A cell that was there is there behind a new block. -/
theorem cellA {w : World} {a : Addr} {v : Value} (h : w.cell? a = some v) : ∀ x, (w.alloc x).cell? a = some v := fun x => keeps_alloc (fun _ => True) w x a v trivial h

theorem strOfNums_inj {l m : List Int} (hl : ∀ (i : Nat) (n : Int), l[i]? = some n → 0 ≤ n ∧ n ≤ 255) (hm : ∀ (i : Nat) (n : Int), m[i]? = some n → 0 ≤ n ∧ n ≤ 255) : ((strOfNums l).toList == (strOfNums m).toList) = (l == m) := by
  have hd : ∀ l : List Int, (strOfNums l).toList = l.map fun n => UInt8.ofNat n.toNat := fun l => by
    rw [ByteArray.toList_eq]; rfl
  rw [hd, hd]
  rw [Bool.eq_iff_iff]
  simp only [beq_iff_eq]
  constructor
  · intro h
    refine List.ext_getElem? fun i => ?_
    have hi := congrArg (fun l => l[i]?) h
    simp only [List.getElem?_map] at hi
    cases hli : l[i]? with
    | none =>
      cases hmi : m[i]? with
      | none => rfl
      | some y => rw [hli, hmi] at hi; simp at hi
    | some x =>
      cases hmi : m[i]? with
      | none => rw [hli, hmi] at hi; simp at hi
      | some y =>
        rw [hli, hmi] at hi
        simp only [Option.map_some, Option.some.injEq] at hi
        have h1 := hl i x hli
        have h2 := hm i y hmi
        have h3 := congrArg UInt8.toNat hi
        simp only [UInt8.toNat_ofNat'] at h3
        rw [Nat.mod_eq_of_lt (by omega), Nat.mod_eq_of_lt (by omega)] at h3
        congr 1; omega
  · intro h; rw [h]

theorem bool_two {a b : Bool} (h : ¬ a = b) : (a = true ∧ b = false) ∨ (a = false ∧ b = true) := by cases a <;> cases b <;> simp_all

theorem ret_bool {a b : Bool} (h : a = b) : Ending.returned (.bool a) = .returned (.bool b) := by rw [h]

set_option maxRecDepth 100000 in
set_option maxHeartbeats 1000000 in
theorem equal45_loop (b o b' o' : Nat) (t u : Tr) (w : World) {ok ok' : Nat → Prop} (ht : TrAt ok w b o t) (hu : TrAt ok' w b' o' u) (he : t.ty = u.ty) (he2 : t.id = u.id) (he3 : t.ats.length = u.ats.length) :
    Calls Try.prog 45 #[.pointer (some ⟨b, o, none⟩), .pointer (some ⟨b', o', none⟩)] w fun e w' => e = .returned (.bool (eqAs t.ats u.ats)) ∧ Below w.heap.size w w' := by
  obtain ⟨x, c0, c1, c2, hx⟩ := ht
  obtain ⟨y, d0, d1, d2, hy⟩ := hu
  obtain ⟨xa, xc, rfl, hxl, hxm⟩ := hx.form
  obtain ⟨ya, yc, rfl, _⟩ := hy.form
  have h0 : (t.ty != u.ty) = false := by simpa using he
  have h1 : (t.id != u.id) = false := by simpa using he2
  obtain ⟨m, hm⟩ : ∃ m, m = t.ats.length := ⟨_, rfl⟩
  have hm' : m = u.ats.length := by omega
  rw [← hm'] at d2 hy
  rw [← hm] at c2 hx hxl
  have H : Hid (AttrsIn ok w (.slice xa m xc) t.ats ∧ AttrsIn ok' w (.slice ya m yc) u.ats ∧ m = t.ats.length ∧ m = u.ats.length) := ⟨hx, hy, hm, hm'⟩
  unfold maxLen at hxm
  have hm63 : m ≤ 9223372036854775807 := by omega
  have hd : w.cell? ⟨b', o' + 2, none⟩ = some (.slice ya m yc) := d2
  clear hx hy he he2 he3 hm hm' hxm hxl
  go_enter Try.func45, Try.ntmps45
  go_wp2
  go_quiet (fail)
  go_wp2
  go_loopw [46] (fun i wr => ∃ k : Nat, k ≤ m ∧ i = .int .i64 k ∧ Below w.heap.size w wr ∧ EqUp t.ats u.ats k) (fun i _ => m - (intOf i).toNat)
  case atStart => exact ⟨0, Nat.zero_le _, rfl, below_drewN (Below.refl _ _) _, EqUp.zero _ _⟩
  case round =>
    obtain ⟨k, hk, rfl, hbel, hup⟩ := hrel
    have hd' : ∀ x, (wr.alloc x).cell? ⟨b', o' + 2, none⟩ = some (.slice ya m yc) := cellA (by rw [hbel.cell (by exact cell_lt hd)]; exact hd)
    clear c0 c1 c2 d0 d1 d2 hd h0 h1
    by_cases hlt : k < m
    · obtain ⟨b1, o1, p, u1, rfl, hp, _, e0, e1, e2, hv, _⟩ := H.out.1.at hlt
      obtain ⟨b2, o2, q, u2, rfl, hq, _, f0, f1, f2, hv', _⟩ := H.out.2.1.at hlt
      have e0' : wr.cell? ⟨b1, o1 + k * 3, none⟩ = some (.int .u16 p.ty) := by rw [hbel.cell (by exact cell_lt e0)]; exact e0
      have e1' : wr.cell? ⟨b1, o1 + k * 3 + 1, none⟩ = some (.bool p.tv) := by rw [hbel.cell (by exact cell_lt e1)]; exact e1
      have e2' : wr.cell? ⟨b1, o1 + k * 3 + 2, none⟩ = some u1 := by rw [hbel.cell (by exact cell_lt e2)]; exact e2
      have f0' : ∀ x, (wr.alloc x).cell? ⟨b2, o2 + k * 3, none⟩ = some (.int .u16 q.ty) := cellA (by rw [hbel.cell (by exact cell_lt f0)]; exact f0)
      have f1' : ∀ x, (wr.alloc x).cell? ⟨b2, o2 + k * 3 + 1, none⟩ = some (.bool q.tv) := cellA (by rw [hbel.cell (by exact cell_lt f1)]; exact f1)
      have f2' : ∀ x, (wr.alloc x).cell? ⟨b2, o2 + k * 3 + 2, none⟩ = some u2 := cellA (by rw [hbel.cell (by exact cell_lt f2)]; exact f2)
      have g1 : ∀ x y, (convert 33 9 u1).run Try.prog ((wr.alloc x).alloc y) = .ok (.string (strOfNums p.val)) ((wr.alloc x).alloc y) := fun x y =>
        run_str (hv.keep ((keeps_of_below _ hbel).trans ((keeps_alloc _ _ _).trans (keeps_alloc _ _ _))))
      have g2 : ∀ x y, (convert 33 9 u2).run Try.prog ((wr.alloc x).alloc y) = .ok (.string (strOfNums q.val)) ((wr.alloc x).alloc y) := fun x y =>
        run_str (hv'.keep ((keeps_of_below _ hbel).trans ((keeps_alloc _ _ _).trans (keeps_alloc _ _ _))))
      obtain ⟨va, vc, rfl, _⟩ := hv.form
      obtain ⟨va', vc', rfl, _⟩ := hv'.form
      have HE : Hid (t.ats[k]? = some p ∧ u.ats[k]? = some q ∧ ((strOfNums p.val).toList == (strOfNums q.val).toList) = (p.val == q.val)) := ⟨hp, hq, strOfNums_inj hv.range hv'.range⟩
      clear e0 e1 e2 f0 f1 f2 hp hq hv hv'
      have two : ∀ x y, Below w.heap.size w ((wr.alloc x).alloc y) := fun x y => (hbel.alloc hbel.size _).alloc (by have := hbel.size; simp; omega) _
      by_cases n1 : p.ty = q.ty
      · have n1' : (p.ty != q.ty) = false := by simpa using n1
        have N1 : Hid (p.ty = q.ty) := n1
        clear n1
        by_cases n2 : p.tv = q.tv
        · have n2' : (p.tv != q.tv) = false := by simpa using n2
          have N2 : Hid (p.tv = q.tv) := n2
          clear n2
          by_cases n3 : p.val = q.val
          · have n3' : ((strOfNums p.val).toList == (strOfNums q.val).toList) = true := by rw [HE.out.2.2]; simpa using n3
            have N3 : Hid (eqA p q = true) := by show eqA p q = true; simp [eqA, N1.out, N2.out, n3]
            clear n3
            go_wp2
            go_roundw
            case rel => exact ⟨k + 1, by omega, by go_num, two _ _, hup.succ HE.out.1 HE.out.2.1 N3.out⟩
            case measure => simp [intOf]; omega
          · have n3' : ((strOfNums p.val).toList == (strOfNums q.val).toList) = false := by rw [HE.out.2.2]; simpa using n3
            have N3 : Hid (eqAs t.ats u.ats = false) := eqAs_not HE.out.1 HE.out.2.1 (by simp [eqA, n3])
            clear n3
            go_wp2
            go_ret
            exact ⟨ret_bool N3.out.symm, two _ _⟩
        · have N3 : Hid (eqAs t.ats u.ats = false) := eqAs_not HE.out.1 HE.out.2.1 (by simp [eqA, n2])
          rcases bool_two n2 with ⟨hpt, hqt⟩ | ⟨hpt, hqt⟩
          all_goals
            clear n2
            rw [hpt] at e1'
            rw [hqt] at f1'
            clear hpt hqt
            go_wp2
            go_ret
            exact ⟨ret_bool N3.out.symm, two _ _⟩
      · have n1' : (p.ty != q.ty) = true := by simpa using n1
        have N3 : Hid (eqAs t.ats u.ats = false) := eqAs_not HE.out.1 HE.out.2.1 (by simp [eqA, n1])
        clear n1
        go_wp2
        go_ret
        exact ⟨ret_bool N3.out.symm, two _ _⟩
    · have N : Hid (eqAs t.ats u.ats = true) := EqUp.all (by have := H.out.2.2.1; have hk' : k = t.ats.length := by omega
                                                             rw [← hk']; exact hup) (H.out.2.2.1.symm.trans H.out.2.2.2)
      clear hup
      go_wp2
      go_ret
      exact ⟨ret_bool N.out.symm, hbel⟩

theorem equal45 (b o b' o' : Nat) (t u : Tr) (w : World) {ok ok' : Nat → Prop} (ht : TrAt ok w b o t) (hu : TrAt ok' w b' o' u) :
    Calls Try.prog 45 #[.pointer (some ⟨b, o, none⟩), .pointer (some ⟨b', o', none⟩)] w fun e w' => e = .returned (.bool (eqT t u)) ∧ Below w.heap.size w w' := by
  by_cases h1 : t.ty = u.ty
  · by_cases h2 : t.id = u.id
    · have e : eqT t u = eqAs t.ats u.ats := by simp [eqT, h1, h2]
      rw [e]
      by_cases h3 : t.ats.length = u.ats.length
      · exact equal45_loop b o b' o' t u w ht hu h1 h2 h3
      · have e2 : eqAs t.ats u.ats = false := by
          cases g : eqAs t.ats u.ats with
          | false => rfl
          | true => exact absurd ((eqAs_iff _ _).1 g).1 h3
        rw [e2]
        exact equal45_len b o b' o' t u w ht hu h1 h2 h3
    · have e : eqT t u = false := by simp [eqT, h2]
      rw [e]
      exact equal45_id b o b' o' t u w ht hu h1 h2
  · have e : eqT t u = false := by simp [eqT, h1]
    rw [e]
    exact equal45_ty b o b' o' t u w ht hu h1
end Go.Proofs.Qxb6600910a
