/-
  Numbers of JSON's grammar, on plain lists of octets: no Go in sight.
-/
namespace Go.Proofs.Qxb6600953a

/-- How many digits a text begins with. -/
def dlen : List Int → Nat
  | [] => 0
  | c :: l => if 48 ≤ c ∧ c ≤ 57 then dlen l + 1 else 0
def sg : List Int → Nat
  | [] => 0
  | c :: _ => if c = 45 then 1 else 0
def sgE : List Int → Nat
  | [] => 0
  | c :: _ => if c = 43 ∨ c = 45 then 1 else 0
def intLen : List Int → Option Nat
  | [] => none
  | c :: l => if c = 48 then some 1 else if 49 ≤ c ∧ c ≤ 57 then some (dlen (c :: l)) else none
def fracLen : List Int → Option Nat
  | [] => some 0
  | c :: l => if c = 46 then (if dlen l = 0 then none else some (dlen l + 1)) else some 0
def expLen : List Int → Option Nat
  | [] => some 0
  | c :: l => if c = 101 ∨ c = 69 then (if dlen (l.drop (sgE l)) = 0 then none else some (dlen (l.drop (sgE l)) + sgE l + 1)) else some 0
def fracExp (s : List Int) : Option Nat := (fracLen s).bind fun c => (expLen (s.drop c)).map (· + c)
def intAll (s : List Int) : Option Nat := (intLen s).bind fun b => (fracExp (s.drop b)).map (· + b)
/-- The length of the number that a text begins with. -/
def numLen (s : List Int) : Option Nat := (intAll (s.drop (sg s))).map (· + sg s)

/-- The automaton of the law file. -/
def step (st c : Int) : Int :=
  if st = 0 then (if c = 45 then 1 else if c = 48 then 2 else if 48 ≤ c ∧ c ≤ 57 then 3 else -1)
  else if st = 1 then (if c = 48 then 2 else if 48 ≤ c ∧ c ≤ 57 then 3 else -1)
  else if st = 2 then (if c = 46 then 4 else if c = 101 ∨ c = 69 then 6 else -1)
  else if st = 3 then (if 48 ≤ c ∧ c ≤ 57 then 3 else if c = 46 then 4 else if c = 101 ∨ c = 69 then 6 else -1)
  else if st = 4 then (if 48 ≤ c ∧ c ≤ 57 then 5 else -1)
  else if st = 5 then (if 48 ≤ c ∧ c ≤ 57 then 5 else if c = 101 ∨ c = 69 then 6 else -1)
  else if st = 6 then (if c = 43 ∨ c = 45 then 7 else if 48 ≤ c ∧ c ≤ 57 then 8 else -1)
  else if st = 7 ∨ st = 8 then (if 48 ≤ c ∧ c ≤ 57 then 8 else -1)
  else -1
def acc (st : Int) : Bool := st == 2 || st == 3 || st == 5 || st == 8
def run : Int → List Int → Int × Nat
  | st, [] => (st, 0)
  | st, c :: l => if step st c < 0 then (st, 0) else ((run (step st c) l).1, (run (step st c) l).2 + 1)
def out (p : Int × Nat) : Option Nat := if acc p.1 then some p.2 else none

theorem out_succ (p : Int × Nat) : out (p.1, p.2 + 1) = (out p).map (· + 1) := by
  unfold out; split <;> rfl
theorem out_move {st c : Int} {l : List Int} (h : 0 ≤ step st c) : out (run st (c :: l)) = (out (run (step st c) l)).map (· + 1) := by
  rw [run, if_neg (by omega), out_succ]
theorem out_stop {st c : Int} {l : List Int} (h : step st c < 0) : out (run st (c :: l)) = if acc st then some 0 else none := by
  rw [run, if_pos h]; rfl

theorem map_add (o : Option Nat) (a b : Nat) : (o.map (· + a)).map (· + b) = o.map (· + (a + b)) := by
  cases o with
  | none => rfl
  | some n => simp only [Option.map_some]; congr 1; omega

theorem out8 : ∀ s, out (run 8 s) = some (dlen s)
  | [] => rfl
  | c :: l => by
    by_cases h : 48 ≤ c ∧ c ≤ 57
    · have e : step 8 c = 8 := by simp [step, h]
      rw [out_move (by rw [e]; decide), e, out8 l]; simp [dlen, h]
    · have e : step 8 c = -1 := by simp [step, h]
      rw [out_stop (by rw [e]; decide)]; simp [dlen, h, acc]
theorem out7 (s : List Int) : out (run 7 s) = if dlen s = 0 then none else some (dlen s) := by
  cases s with
  | nil => rfl
  | cons c l =>
    by_cases h : 48 ≤ c ∧ c ≤ 57
    · have e : step 7 c = 8 := by simp [step, h]
      rw [out_move (by rw [e]; decide), e, out8 l]; simp [dlen, h]
    · have e : step 7 c = -1 := by simp [step, h]
      rw [out_stop (by rw [e]; decide)]; simp [dlen, h, acc]
theorem out6 (s : List Int) : out (run 6 s) = if dlen (s.drop (sgE s)) = 0 then none else some (dlen (s.drop (sgE s)) + sgE s) := by
  cases s with
  | nil => rfl
  | cons c l =>
    by_cases g : c = 43 ∨ c = 45
    · have e : step 6 c = 7 := by simp [step, g]
      rw [out_move (by rw [e]; decide), e, out7 l]
      simp only [sgE, if_pos g, List.drop_succ_cons, List.drop_zero]
      split <;> rfl
    · have hs : sgE (c :: l) = 0 := by simp [sgE, g]
      rw [hs, List.drop_zero]
      by_cases h : 48 ≤ c ∧ c ≤ 57
      · have e : step 6 c = 8 := by simp [step, h, g]
        rw [out_move (by rw [e]; decide), e, out8 l]; simp [dlen, h]
      · have e : step 6 c = -1 := by simp [step, h, g]
        rw [out_stop (by rw [e]; decide)]; simp [dlen, h, acc]

/-- Behind an accepting state, where neither a digit nor a point goes on. -/
theorem outE {a c : Int} {l : List Int} (ha : acc a = true) (hm : ∀ (_ : c = 101 ∨ c = 69), step a c = 6) (hn : ¬ (c = 101 ∨ c = 69) → step a c = -1) : out (run a (c :: l)) = expLen (c :: l) := by
  by_cases g : c = 101 ∨ c = 69
  · rw [out_move (by rw [hm g]; decide), hm g, out6]
    simp only [expLen, if_pos g]
    split <;> rfl
  · rw [out_stop (by rw [hn g]; decide), ha]; simp [expLen, g]

theorem out5 : ∀ s, out (run 5 s) = (expLen (s.drop (dlen s))).map (· + dlen s)
  | [] => rfl
  | c :: l => by
    by_cases h : 48 ≤ c ∧ c ≤ 57
    · have e : step 5 c = 5 := by simp [step, h]
      rw [out_move (by rw [e]; decide), e, out5 l, map_add]
      simp only [dlen, if_pos h, List.drop_succ_cons]
    · have hd : dlen (c :: l) = 0 := by simp [dlen, h]
      rw [hd, List.drop_zero, outE rfl (fun g => by simp [step, h, g]) (fun g => by simp [step, h, g])]
      cases expLen (c :: l) <;> rfl
theorem out4 (s : List Int) : out (run 4 s) = if dlen s = 0 then none else (expLen (s.drop (dlen s))).map (· + dlen s) := by
  cases s with
  | nil => rfl
  | cons c l =>
    by_cases h : 48 ≤ c ∧ c ≤ 57
    · have e : step 4 c = 5 := by simp [step, h]
      rw [out_move (by rw [e]; decide), e, out5 l, map_add]
      simp only [dlen, if_pos h, List.drop_succ_cons]
      rw [if_neg (by omega)]
    · have e : step 4 c = -1 := by simp [step, h]
      rw [out_stop (by rw [e]; decide)]; simp [dlen, h, acc]

theorem point {c : Int} {l : List Int} (h : c = 46) : fracExp (c :: l) = (if dlen l = 0 then none else (expLen (l.drop (dlen l))).map (· + dlen l)).map (· + 1) := by
  unfold fracExp
  simp only [fracLen, if_pos h]
  split
  · rfl
  · simp only [Option.bind_some, List.drop_succ_cons]
    rw [map_add]
theorem noPoint {c : Int} {l : List Int} (h : c ≠ 46) : fracExp (c :: l) = expLen (c :: l) := by
  unfold fracExp
  simp only [fracLen, if_neg h, Option.bind_some, List.drop_zero]
  cases expLen (c :: l) <;> rfl

theorem out2 (s : List Int) : out (run 2 s) = fracExp s := by
  cases s with
  | nil => rfl
  | cons c l =>
    by_cases p : c = 46
    · have e : step 2 c = 4 := by simp [step, p]
      rw [out_move (by rw [e]; decide), e, out4 l, point p]
    · rw [noPoint p]
      exact outE rfl (fun g => by simp [step, p, g]) (fun g => by simp [step, p, g])
theorem out3 : ∀ s, out (run 3 s) = (fracExp (s.drop (dlen s))).map (· + dlen s)
  | [] => rfl
  | c :: l => by
    by_cases h : 48 ≤ c ∧ c ≤ 57
    · have e : step 3 c = 3 := by simp [step, h]
      rw [out_move (by rw [e]; decide), e, out3 l, map_add]
      simp only [dlen, if_pos h, List.drop_succ_cons]
    · have hd : dlen (c :: l) = 0 := by simp [dlen, h]
      rw [hd, List.drop_zero]
      have h0 : ∀ o : Option Nat, o.map (· + 0) = o := fun o => by cases o <;> rfl
      rw [h0]
      by_cases p : c = 46
      · have e : step 3 c = 4 := by simp [step, p]
        rw [out_move (by rw [e]; decide), e, out4 l, point p]
      · rw [noPoint p]
        exact outE rfl (fun g => by simp [step, h, p, g]) (fun g => by simp [step, h, p, g])

theorem int_zero {c : Int} {l : List Int} (h : c = 48) : intAll (c :: l) = (fracExp l).map (· + 1) := by
  simp [intAll, intLen, h]
theorem int_dig {c : Int} {l : List Int} (h : 49 ≤ c ∧ c ≤ 57) : intAll (c :: l) = ((fracExp (l.drop (dlen l))).map (· + dlen l)).map (· + 1) := by
  have h0 : ¬ c = 48 := by omega
  have hd : dlen (c :: l) = dlen l + 1 := by simp only [dlen]; rw [if_pos (by omega)]
  unfold intAll
  simp only [intLen, if_neg h0, if_pos h, Option.bind_some]
  rw [hd, List.drop_succ_cons, map_add]
theorem int_no {c : Int} {l : List Int} (h0 : ¬ c = 48) (h : ¬ (49 ≤ c ∧ c ≤ 57)) : intAll (c :: l) = none := by
  simp [intAll, intLen, h0, h]

theorem out1 (s : List Int) : out (run 1 s) = intAll s := by
  cases s with
  | nil => rfl
  | cons c l =>
    by_cases z : c = 48
    · have e : step 1 c = 2 := by simp [step, z]
      rw [out_move (by rw [e]; decide), e, out2 l, int_zero z]
    · by_cases h : 49 ≤ c ∧ c ≤ 57
      · have e : step 1 c = 3 := by
          have h' : 48 ≤ c ∧ c ≤ 57 := by omega
          simp [step, z, h']
        rw [out_move (by rw [e]; decide), e, out3 l, int_dig h]
      · have e : step 1 c = -1 := by
          have h' : ¬ (48 ≤ c ∧ c ≤ 57) := by omega
          simp [step, z, h']
        rw [out_stop (by rw [e]; decide), int_no z h]; rfl

/-- THE LAW: the automaton, run greedily, finds just the numbers of the grammar. -/
theorem out0 (s : List Int) : out (run 0 s) = numLen s := by
  cases s with
  | nil => rfl
  | cons c l =>
    by_cases m : c = 45
    · have e : step 0 c = 1 := by simp [step, m]
      have hs : sg (c :: l) = 1 := by simp [sg, m]
      rw [out_move (by rw [e]; decide), e, out1 l]
      unfold numLen
      rw [hs, List.drop_succ_cons, List.drop_zero]
    · have hs : sg (c :: l) = 0 := by simp [sg, m]
      have h0 : ∀ o : Option Nat, o.map (· + 0) = o := fun o => by cases o <;> rfl
      unfold numLen
      rw [hs, List.drop_zero, h0, ← out1 (c :: l)]
      have e : step 0 c = step 1 c := by simp [step, m]
      by_cases k : step 1 c < 0
      · rw [out_stop k, out_stop (by rw [e]; exact k)]; rfl
      · rw [out_move (st := 1) (by omega), out_move (st := 0) (by rw [e]; omega), e]

theorem run_le : ∀ (st : Int) (s : List Int), (run st s).2 ≤ s.length
  | _, [] => Nat.le_refl _
  | st, c :: l => by
    rw [run]
    split
    · exact Nat.zero_le _
    · have := run_le (step st c) l; simp only [List.length_cons]; omega
theorem run_zero : ∀ (st : Int) (s : List Int), (run st s).2 = 0 → (run st s).1 = st
  | _, [], _ => rfl
  | st, c :: l, h => by
    rw [run] at h ⊢
    split
    · rfl
    · rename_i k; rw [if_neg k] at h; simp at h
theorem run_take : ∀ (st : Int) (s : List Int), run st (s.take (run st s).2) = run st s
  | _, [] => rfl
  | st, c :: l => by
    by_cases k : step st c < 0
    · rw [run, if_pos k]; rfl
    · have e : run st (c :: l) = ((run (step st c) l).1, (run (step st c) l).2 + 1) := by rw [run, if_neg k]
      rw [e]
      simp only [List.take_succ_cons]
      rw [run, if_neg k, run_take (step st c) l]

theorem numLen_some {s : List Int} {k : Nat} (h : numLen s = some k) : (run 0 s).2 = k ∧ acc (run 0 s).1 = true := by
  rw [← out0] at h
  unfold out at h
  split at h
  · rename_i ha; injection h with h; exact ⟨h, ha⟩
  · cases h
theorem numLen_le {s : List Int} {k : Nat} (h : numLen s = some k) : 1 ≤ k ∧ k ≤ s.length := by
  obtain ⟨h1, h2⟩ := numLen_some h
  refine ⟨?_, h1 ▸ run_le 0 s⟩
  cases k with
  | zero => rw [run_zero 0 s h1] at h2; simp [acc] at h2
  | succ n => omega
theorem numLen_take {s : List Int} {k : Nat} (h : numLen s = some k) : numLen (s.take k) = some k := by
  obtain ⟨h1, h2⟩ := numLen_some h
  rw [← out0, ← h1, run_take]
  unfold out
  rw [if_pos h2]

/-- What validNumber answers at place i, s being the text from i on. -/
def res (i : Int) (s : List Int) : Int := match numLen s with | none => -1 | some k => i + k

end Go.Proofs.Qxb6600953a
