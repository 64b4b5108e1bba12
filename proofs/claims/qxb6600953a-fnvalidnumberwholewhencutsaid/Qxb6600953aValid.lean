/-
  validNumber.
-/
import Derived.Test.Qxb6600953aBase
import Derived.Deep.DeepCutAuto
import Derived.Deep.CutBlock
namespace Go.Proofs.Qxb6600953a
open Go.RowKit

def resO (o : Option Nat) (j : Int) : Int := match o with | none => -1 | some k => j + k
theorem resO_map (o : Option Nat) (a : Nat) (j : Int) : resO (o.map (· + a)) j = resO o (j + a) := by
  cases o with
  | none => rfl
  | some k => simp only [resO, Option.map_some]; omega
theorem res_eq (i : Int) (s : List Int) : res i s = resO (numLen s) i := by unfold res resO; rfl

theorem drop_cons {l : List Int} {j : Nat} {c : Int} (h : l[j]? = some c) : l.drop j = c :: l.drop (j + 1) := by
  obtain ⟨h1, e1⟩ := List.getElem?_eq_some_iff.1 h
  rw [List.drop_eq_getElem_cons h1, e1]

/-! ### what each stage does -/
def V (l : List Int) (i : Nat) (r : Int) : Prop := res i (l.drop i) = r

theorem V.minus {l : List Int} {i : Nat} (h : l[i]? = some 45) : V l i (resO (intAll (l.drop (i + 1))) (i + 1)) := by
  unfold V
  rw [res_eq, drop_cons h]
  unfold numLen
  simp only [sg, if_pos, List.drop_succ_cons, List.drop_zero]
  rw [resO_map]; rfl
theorem V.plain {l : List Int} {i : Nat} {c : Int} (h : l[i]? = some c) (hc : c ≠ 45) : V l i (resO (intAll (l.drop i)) i) := by
  unfold V
  rw [res_eq, drop_cons h]
  unfold numLen
  simp only [sg, if_neg hc, List.drop_zero]
  rw [resO_map]; simp

theorem V.int_end {l : List Int} {i j : Nat} (h : V l i (resO (intAll (l.drop j)) j)) (hj : l.length ≤ j) : V l i (-1) := by
  rw [List.drop_eq_nil_of_le hj] at h; exact h
theorem V.int_zero {l : List Int} {i j : Nat} (h : V l i (resO (intAll (l.drop j)) j)) (hc : l[j]? = some 48) : V l i (resO (fracExp (l.drop (j + 1))) (j + 1)) := by
  rw [drop_cons hc, Qxb6600953a.int_zero rfl, resO_map] at h; exact h
theorem V.int_no {l : List Int} {i j : Nat} {c : Int} (h : V l i (resO (intAll (l.drop j)) j)) (hc : l[j]? = some c) (h0 : c ≠ 48) (h1 : ¬ (49 ≤ c ∧ c ≤ 57)) : V l i (-1) := by
  rw [drop_cons hc, Qxb6600953a.int_no h0 h1] at h; exact h
theorem V.int_dig {l : List Int} {i j : Nat} {c : Int} (h : V l i (resO (intAll (l.drop j)) j)) (hc : l[j]? = some c) (h1 : 49 ≤ c ∧ c ≤ 57) :
    ∃ d : Nat, dlen (l.drop j) = d + 1 ∧ V l i (resO (fracExp (l.drop (j + (d + 1)))) (j + (d + 1) : Nat)) := by
  refine ⟨dlen (l.drop (j + 1)), ?_, ?_⟩
  · rw [drop_cons hc]; simp only [dlen]; rw [if_pos (by omega)]
  · rw [drop_cons hc, Qxb6600953a.int_dig h1, map_add, resO_map] at h
    rw [List.drop_drop] at h
    rw [show j + (dlen (l.drop (j + 1)) + 1) = j + 1 + dlen (l.drop (j + 1)) by omega]
    rw [show ((j + 1 + dlen (l.drop (j + 1)) : Nat) : Int) = (j : Int) + ((dlen (l.drop (j + 1)) + 1 : Nat) : Int) by omega]
    exact h

theorem V.frac_end {l : List Int} {i j : Nat} (h : V l i (resO (fracExp (l.drop j)) j)) (hj : l.length ≤ j) : V l i (resO (expLen (l.drop j)) j) := by
  rw [List.drop_eq_nil_of_le hj] at h ⊢; exact h
theorem V.frac_no {l : List Int} {i j : Nat} {c : Int} (h : V l i (resO (fracExp (l.drop j)) j)) (hc : l[j]? = some c) (h0 : c ≠ 46) : V l i (resO (expLen (l.drop j)) j) := by
  rw [drop_cons hc, noPoint h0] at h; rw [drop_cons hc]; exact h
theorem V.frac_bad {l : List Int} {i j : Nat} (h : V l i (resO (fracExp (l.drop j)) j)) (hc : l[j]? = some 46) (hd : dlen (l.drop (j + 1)) = 0) : V l i (-1) := by
  rw [drop_cons hc, point rfl, if_pos hd] at h; exact h
theorem V.frac_ok {l : List Int} {i j : Nat} (h : V l i (resO (fracExp (l.drop j)) j)) (hc : l[j]? = some 46) (hd : dlen (l.drop (j + 1)) ≠ 0) : V l i (resO (expLen (l.drop (j + 1 + dlen (l.drop (j + 1))))) (j + 1 + dlen (l.drop (j + 1)) : Nat)) := by
  rw [drop_cons hc, point rfl, if_neg hd, map_add, resO_map, List.drop_drop] at h
  rw [show ((j + 1 + dlen (l.drop (j + 1)) : Nat) : Int) = (j : Int) + ((dlen (l.drop (j + 1)) + 1 : Nat) : Int) by omega]
  exact h

theorem V.exp_end {l : List Int} {i j : Nat} (h : V l i (resO (expLen (l.drop j)) j)) (hj : l.length ≤ j) : V l i j := by
  rw [List.drop_eq_nil_of_le hj] at h; simpa [resO, expLen] using h
theorem V.exp_no {l : List Int} {i j : Nat} {c : Int} (h : V l i (resO (expLen (l.drop j)) j)) (hc : l[j]? = some c) (h0 : ¬ (c = 101 ∨ c = 69)) : V l i j := by
  rw [drop_cons hc] at h; simpa [resO, expLen, h0] using h
theorem V.exp_sign {l : List Int} {i j : Nat} {c s : Int} (h : V l i (resO (expLen (l.drop j)) j)) (hc : l[j]? = some c) (h0 : c = 101 ∨ c = 69) (hs : l[j + 1]? = some s) (h1 : s = 43 ∨ s = 45) : V l i (digR l (j + 1 + 1)) := by
  rw [drop_cons hc] at h
  unfold digR
  simp only [expLen, if_pos h0] at h
  rw [drop_cons hs] at h
  simp only [sgE, if_pos h1, List.drop_succ_cons, List.drop_zero] at h
  by_cases hd : dlen (l.drop (j + 1 + 1)) = 0
  · rw [if_pos hd] at h ⊢; exact h
  · rw [if_neg hd] at h ⊢
    simp only [resO] at h
    rw [show ((j + 1 + 1 : Nat) : Int) + (dlen (l.drop (j + 1 + 1)) : Int) = (j : Int) + ((dlen (l.drop (j + 1 + 1)) + 1 + 1 : Nat) : Int) by omega]
    exact h
theorem V.exp_bare {l : List Int} {i j : Nat} {c : Int} (h : V l i (resO (expLen (l.drop j)) j)) (hc : l[j]? = some c) (h0 : c = 101 ∨ c = 69) (hs : ∀ s, l[j + 1]? = some s → ¬ (s = 43 ∨ s = 45)) : V l i (digR l (j + 1)) := by
  rw [drop_cons hc] at h
  unfold digR
  simp only [expLen, if_pos h0] at h
  have hg : sgE (l.drop (j + 1)) = 0 := by
    cases g : l.drop (j + 1) with
    | nil => rfl
    | cons s r =>
      have : l[j + 1]? = some s := by
        have := congrArg (fun x => x[0]?) g
        simpa using this
      simp only [sgE, if_neg (hs s this)]
  rw [hg, List.drop_zero] at h
  by_cases hd : dlen (l.drop (j + 1)) = 0
  · rw [if_pos hd] at h ⊢; exact h
  · rw [if_neg hd] at h ⊢
    simp only [resO] at h
    rw [show ((j + 1 : Nat) : Int) + (dlen (l.drop (j + 1)) : Int) = (j : Int) + ((dlen (l.drop (j + 1)) + 0 + 1 : Nat) : Int) by omega]
    exact h

theorem dlen_le : ∀ s : List Int, dlen s ≤ s.length
  | [] => Nat.le_refl _
  | c :: l => by
    simp only [dlen]
    split
    · have := dlen_le l; simp only [List.length_cons]; omega
    · exact Nat.zero_le _
theorem dlen_drop_le (l : List Int) (j : Nat) (h : j ≤ l.length) : j + dlen (l.drop j) ≤ l.length := by
  have := dlen_le (l.drop j); rw [List.length_drop] at this; omega

/-- Is there a point ¦ an e at place j? -/
def isPt (l : List Int) (j : Nat) : Bool := l[j]? == some 46
def isE (l : List Int) (j : Nat) : Bool := l[j]? == some 101 || l[j]? == some 69
def isSg (l : List Int) (j : Nat) : Bool := l[j]? == some 43 || l[j]? == some 45

set_option maxRecDepth 100000 in
set_option maxHeartbeats 2000000 in
theorem valid24 (a : Option Addr) (len cap : Nat) (l : List Int) (i : Nat) (w : World) (h : BytesAt w (.slice a len cap) l) (hi : i < len) (h20 : len ≤ 1048576) :
    Calls Try.prog 24 #[.slice a len cap, .int .i64 (i : Int)] w fun e w' => e = .returned (.int .i64 (res i (l.drop i))) ∧ w = w' := by
  obtain ⟨hlen, hlc, hcap⟩ := h.len
  have H : Hid (BytesAt w (.slice a len cap) l ∧ len = l.length) := ⟨h, hlen⟩
  obtain ⟨b, o, ci, rfl, hci, cell0, _⟩ := h.at hi
  have HC := hide hci
  clear h hlen hlc hcap hci
  go_enter Try.func24, Try.ntmps24
  go_upto_if 9 with fail
  go_cut [1] (fun t wc => w = wc ∧ ∃ j : Nat, t = .int .i64 j ∧ j ≤ len ∧ V l i (resO (intAll (l.drop j)) j))
  case first =>
    by_cases hm : ci = 45
    · have R := hide (V.minus (hm ▸ HC.out))
      have hm' : (ci == 45) = true := by simpa using hm
      clear hm
      go_wp2
      go_meet
      case rel => exact ⟨rfl, i + 1, by go_num, by omega, R.out⟩
    · have R := hide (V.plain HC.out hm)
      have hm' : (ci == 45) = false := by simpa using hm
      clear hm
      go_wp2
      go_meet
      case rel => exact ⟨rfl, i, rfl, by omega, R.out⟩
  case rest =>
    obtain ⟨rfl, j, rfl, hj, hV⟩ := hcut
    clear cell0 HC hi
    go_upto_block 0 with fail
    go_cut [1] (fun t wc => w = wc ∧ ∃ j : Nat, t = .int .i64 j ∧ j ≤ len ∧ V l i (resO (fracExp (l.drop j)) j))
    case first =>
      by_cases hje : j = len
      · have R := hide (hV.int_end (by have := H.out.2; omega))
        have hje' : ((j : Int) == (len : Int)) = true := by simp; omega
        clear hje hV
        go_wp2
        go_ret
        exact ⟨ret_int R.out.symm, rfl⟩
      have hjl : j < len := by omega
      have hje' : ((j : Int) == (len : Int)) = false := by simp; omega
      clear hje
      obtain ⟨b', o', c, e, hc, c0, _⟩ := H.out.1.at hjl
      injection e with e; injection e with e1 e2; subst e1; subst e2
      by_cases hz : c = 48
      · have R := hide (hV.int_zero (hz ▸ hc))
        have hz' : (c == 48) = true := by simpa using hz
        clear hz hV hc
        go_wp2
        go_meet
        case rel => exact ⟨rfl, j + 1, by go_num, by omega, R.out⟩
      have hz' : (c == 48) = false := by simpa using hz
      by_cases hd : 49 ≤ c ∧ c ≤ 57
      · obtain ⟨d, hd0, hV2⟩ := hV.int_dig hc hd
        have R := hide hV2
        have hdr : digR l j = ((j + (d + 1) : Nat) : Int) := by unfold digR; rw [hd0, if_neg (by omega)]; omega
        have hle : j + (d + 1) ≤ len := by have := dlen_drop_le l j (by have := H.out.2; omega); have := H.out.2; omega
        have HD := hide hdr
        obtain ⟨hd1, hd2⟩ := hd
        clear hV hV2 hc hd0 hdr hz
        go_wp2_with (go_at_call 32; refine (digits32 _ len cap l j _ H.out.1 (by omega)).mono ?_; rintro e w' ⟨rfl, rfl⟩; rw [HD.out])
        go_meet
        case rel => exact ⟨rfl, j + (d + 1), rfl, hle, R.out⟩
      · have R := hide (hV.int_no hc hz hd)
        clear hV hc hz
        by_cases hd1 : 49 ≤ c
        · have hd2 : ¬ c ≤ 57 := fun g => hd ⟨hd1, g⟩
          clear hd
          go_wp2
          go_ret
          exact ⟨ret_int R.out.symm, rfl⟩
        · clear hd
          go_wp2
          go_ret
          exact ⟨ret_int R.out.symm, rfl⟩
    case rest =>
      clear hV hj
      obtain ⟨rfl, j, rfl, hj, hV⟩ := hcut
      go_upto_region 10 with fail
      go_cut [51] (fun t wc => w = wc ∧ t = .bool (isPt l j))
      case first =>
        by_cases hjl : j < len
        · obtain ⟨b', o', c, e, hc, c0, _⟩ := H.out.1.at hjl
          injection e with e; injection e with e1 e2; subst e1; subst e2
          cases hp : isPt l j with
          | true =>
            have hz' : (c == 46) = true := by simpa [isPt, hc] using hp
            have HP := hide hp
            clear hV hc hp
            go_wp2
            go_meet
            case rel => exact ⟨rfl, by rw [HP.out]⟩
          | false =>
            have hz' : (c == 46) = false := by simpa [isPt, hc] using hp
            have HP := hide hp
            clear hV hc hp
            go_wp2
            go_meet
            case rel => exact ⟨rfl, by rw [HP.out]⟩
        · have hp : isPt l j = false := by simp [isPt]; rw [List.getElem?_eq_none (by have := H.out.2; omega)]; simp
          have HP := hide hp
          clear hV hp
          go_wp2
          go_meet
          case rel => exact ⟨rfl, by rw [HP.out]⟩
      case rest =>
        obtain ⟨rfl, rfl⟩ := hcut
        go_upto_if 51 with fail
        go_cut [1] (fun t wc => w = wc ∧ ∃ j : Nat, t = .int .i64 j ∧ j ≤ len ∧ V l i (resO (expLen (l.drop j)) j))
        case first =>
          cases hp : isPt l j with
          | true =>
            have hc : l[j]? = some 46 := by simpa [isPt] using hp
            have hjl : j < len := by have := (List.getElem?_eq_some_iff.1 hc).1; have := H.out.2; omega
            by_cases hd : dlen (l.drop (j + 1)) = 0
            · have HD : Hid (digR l (j + 1) = -1) := by show digR l (j + 1) = -1; unfold digR; rw [if_pos hd]
              have R := hide (hV.frac_bad hc hd)
              clear hV hc hd hp
              go_wp2_with (go_at_call 32; rw [show ((j : Int) + 1) = ((j + 1 : Nat) : Int) by omega]; refine (digits32 _ len cap l (j + 1) _ H.out.1 (by omega)).mono ?_; rintro e w' ⟨rfl, rfl⟩; rw [HD.out])
              go_ret
              exact ⟨ret_int R.out.symm, rfl⟩
            · have hle := dlen_drop_le l (j + 1) (by have := H.out.2; omega)
              have HD : Hid (digR l (j + 1) = ((j + 1 + dlen (l.drop (j + 1)) : Nat) : Int)) := by show digR l (j + 1) = _; unfold digR; rw [if_neg hd]; omega
              have R := hide (hV.frac_ok hc hd)
              have hle' : j + 1 + dlen (l.drop (j + 1)) ≤ len := by have := H.out.2; omega
              obtain ⟨q, hq⟩ : ∃ q, q = j + 1 + dlen (l.drop (j + 1)) := ⟨_, rfl⟩
              rw [← hq] at HD R hle'
              clear hV hc hd hp hle hq
              go_wp2_with (go_at_call 32; rw [show ((j : Int) + 1) = ((j + 1 : Nat) : Int) by omega]; refine (digits32 _ len cap l (j + 1) _ H.out.1 (by omega)).mono ?_; rintro e w' ⟨rfl, rfl⟩; rw [HD.out])
              go_meet
              case rel => exact ⟨rfl, q, rfl, hle', R.out⟩
          | false =>
            have R : Hid (V l i (resO (expLen (l.drop j)) j)) := by
              by_cases hjl : j < l.length
              · refine hV.frac_no (List.getElem?_eq_getElem hjl) (fun g => ?_)
                simp [isPt, List.getElem?_eq_getElem hjl, g] at hp
              · exact hV.frac_end (by omega)
            clear hV hp
            go_wp2
            go_meet
            case rel => exact ⟨rfl, j, rfl, hj, R.out⟩
        case rest =>
          clear hV hj
          obtain ⟨rfl, j, rfl, hj, hV⟩ := hcut
          by_cases hjl : j < len
          · obtain ⟨b', o', c, e, hc, c0, _⟩ := H.out.1.at hjl
            injection e with e; injection e with e1 e2; subst e1; subst e2
            by_cases hE : c = 101 ∨ c = 69
            · by_cases hs : j + 1 < len ∧ ∃ s, l[j + 1]? = some s ∧ (s = 43 ∨ s = 45)
              · obtain ⟨hj1, s, hs1, hs2⟩ := hs
                have R := hide (hV.exp_sign hc hE hs1 hs2)
                obtain ⟨b', o', c', e, hc', c1, _⟩ := H.out.1.at hj1
                injection e with e; injection e with e1 e2; subst e1; subst e2
                rw [hs1] at hc'; injection hc' with hc'; subst hc'
                have c1b := c1
                rw [← Nat.add_assoc] at c1b
                clear hV hc hs1
                rcases hE with rfl | rfl
                all_goals
                  rcases hs2 with rfl | rfl
                  all_goals
                    go_wp2_with (go_at_call 32; rw [show ((j : Int) + 1 + 1) = ((j + 1 + 1 : Nat) : Int) by omega]; refine (digits32 _ len cap l (j + 1 + 1) _ H.out.1 (by omega)).mono ?_; rintro e w' ⟨rfl, rfl⟩)
                    go_ret
                    exact ⟨ret_int R.out.symm, rfl⟩
              · have R := hide (hV.exp_bare hc hE (fun s h1 h2 => hs ⟨by have := (List.getElem?_eq_some_iff.1 h1).1; have := H.out.2; omega, s, h1, h2⟩))
                clear hV hc
                by_cases hj1 : j + 1 < len
                · obtain ⟨b', o', c', e, hc', c1, _⟩ := H.out.1.at hj1
                  injection e with e; injection e with e1 e2; subst e1; subst e2
                  have c1b := c1
                  rw [← Nat.add_assoc] at c1b
                  have n1 : (c' == 43) = false := by simp; exact fun g => hs ⟨hj1, c', hc', .inl g⟩
                  have n2 : (c' == 45) = false := by simp; exact fun g => hs ⟨hj1, c', hc', .inr g⟩
                  clear hs hc'
                  rcases hE with rfl | rfl
                  all_goals
                    go_wp2_with (go_at_call 32; rw [show ((j : Int) + 1) = ((j + 1 : Nat) : Int) by omega]; refine (digits32 _ len cap l (j + 1) _ H.out.1 (by omega)).mono ?_; rintro e w' ⟨rfl, rfl⟩)
                    go_ret
                    exact ⟨ret_int R.out.symm, rfl⟩
                · clear hs
                  rcases hE with rfl | rfl
                  all_goals
                    go_wp2_with (go_at_call 32; rw [show ((j : Int) + 1) = ((j + 1 : Nat) : Int) by omega]; refine (digits32 _ len cap l (j + 1) _ H.out.1 (by omega)).mono ?_; rintro e w' ⟨rfl, rfl⟩)
                    go_ret
                    exact ⟨ret_int R.out.symm, rfl⟩
            · have R := hide (hV.exp_no hc hE)
              have n1 : (c == 101) = false := by simp; exact fun g => hE (.inl g)
              have n2 : (c == 69) = false := by simp; exact fun g => hE (.inr g)
              clear hV hc hE
              go_wp2
              go_ret
              exact ⟨ret_int R.out.symm, rfl⟩
          · have R := hide (hV.exp_end (by have := H.out.2; omega))
            clear hV
            go_wp2
            go_ret
            exact ⟨ret_int R.out.symm, rfl⟩
end Go.Proofs.Qxb6600953a
