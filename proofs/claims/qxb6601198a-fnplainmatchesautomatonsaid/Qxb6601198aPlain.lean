/-
  THE PLAIN LAWS of the seat b6601198a: no Go in sight: the grammar of a JSON number read by stages ('num') and the automaton ('acc') take the same.
-/
namespace Go.Proofs.Qxb6601198a

def isDig (c : UInt8) : Bool := decide (48 ≤ c.toNat ∧ c.toNat ≤ 57)
theorem isDig_iff (c : UInt8) : isDig c = true ↔ 48 ≤ c.toNat ∧ c.toNat ≤ 57 := by unfold isDig; simp
def isExp (c : UInt8) : Bool := decide (c.toNat = 101 ∨ c.toNat = 69)
theorem isExp_iff (c : UInt8) : isExp c = true ↔ c.toNat = 101 ∨ c.toNat = 69 := by unfold isExp; simp
def isSgn (c : UInt8) : Bool := decide (c.toNat = 43 ∨ c.toNat = 45)
theorem isSgn_iff (c : UInt8) : isSgn c = true ↔ c.toNat = 43 ∨ c.toNat = 45 := by unfold isSgn; simp

/-- how many digits open the list -/
def run (l : List UInt8) : Nat := (l.takeWhile isDig).length
theorem run_nil : run [] = 0 := rfl
theorem run_yes (c : UInt8) (r : List UInt8) (h : isDig c = true) : run (c :: r) = run r + 1 := by
  unfold run; rw [List.takeWhile_cons, if_pos h]; rfl
theorem run_no (c : UInt8) (r : List UInt8) (h : isDig c = false) : run (c :: r) = 0 := by
  unfold run; rw [List.takeWhile_cons, if_neg (by simp [h])]; rfl
theorem run_le (l : List UInt8) : run l ≤ l.length := (List.takeWhile_prefix isDig).length_le

/-! ### the grammar, by stages: how many bytes are taken, or none -/
/-- digits, at least one -/
def some1 (l : List UInt8) : Option Nat := if run l = 0 then none else some (run l)
/-- behind e or E: a sign or none, digits -/
def expD (l : List UInt8) : Option Nat :=
  match l with
  | [] => none
  | c :: r => if isSgn c = true then (some1 r).map (· + 1) else some1 (c :: r)
/-- an exponent or none -/
def expo (l : List UInt8) : Option Nat :=
  match l with
  | [] => some 0
  | c :: r => if isExp c = true then (expD r).map (· + 1) else some 0
/-- a fraction or none, then an exponent or none -/
def frac (l : List UInt8) : Option Nat :=
  match l with
  | [] => some 0
  | c :: r => if c.toNat = 46 then (if run r = 0 then none else (expo (r.drop (run r))).map (· + run r + 1)) else expo (c :: r)
/-- an integer, what may follow it -/
def intP (l : List UInt8) : Option Nat :=
  match l with
  | [] => none
  | c :: r => if c.toNat = 48 then (frac r).map (· + 1) else if isDig c = true then (frac ((c :: r).drop (run (c :: r)))).map (· + run (c :: r)) else none
/-- a number -/
def num (l : List UInt8) : Option Nat :=
  match l with
  | [] => none
  | c :: r => if c.toNat = 45 then (intP r).map (· + 1) else intP (c :: r)

theorem expD_cons (c : UInt8) (r : List UInt8) : expD (c :: r) = if isSgn c = true then (some1 r).map (· + 1) else some1 (c :: r) := rfl
theorem expo_cons (c : UInt8) (r : List UInt8) : expo (c :: r) = if isExp c = true then (expD r).map (· + 1) else some 0 := rfl
theorem frac_cons (c : UInt8) (r : List UInt8) : frac (c :: r) = if c.toNat = 46 then (if run r = 0 then none else (expo (r.drop (run r))).map (· + run r + 1)) else expo (c :: r) := rfl
theorem intP_cons (c : UInt8) (r : List UInt8) : intP (c :: r) = if c.toNat = 48 then (frac r).map (· + 1) else if isDig c = true then (frac ((c :: r).drop (run (c :: r)))).map (· + run (c :: r)) else none := rfl
theorem num_cons (c : UInt8) (r : List UInt8) : num (c :: r) = if c.toNat = 45 then (intP r).map (· + 1) else intP (c :: r) := rfl

/-! ### the automaton -/
def step (st : Nat) (c : UInt8) : Option Nat :=
  match st with
  | 0 => if c.toNat = 45 then some 1 else if c.toNat = 48 then some 2 else if isDig c = true then some 3 else none
  | 1 => if c.toNat = 48 then some 2 else if isDig c = true then some 3 else none
  | 2 => if c.toNat = 46 then some 4 else if isExp c = true then some 6 else none
  | 3 => if isDig c = true then some 3 else if c.toNat = 46 then some 4 else if isExp c = true then some 6 else none
  | 4 => if isDig c = true then some 5 else none
  | 5 => if isDig c = true then some 5 else if isExp c = true then some 6 else none
  | 6 => if isSgn c = true then some 7 else if isDig c = true then some 8 else none
  | 7 => if isDig c = true then some 8 else none
  | 8 => if isDig c = true then some 8 else none
  | _ => none

def accepting (st : Nat) : Bool := decide (st = 2 ∨ st = 3 ∨ st = 5 ∨ st = 8)

/-- the automaton run until it has no transition: how many bytes it takes, or none where it stops in a state that does not accept -/
def acc : List UInt8 → Nat → Option Nat
  | [], st => if accepting st = true then some 0 else none
  | c :: r, st =>
    match step st c with
    | none => if accepting st = true then some 0 else none
    | some st' => (acc r st').map (· + 1)

theorem acc_some (c : UInt8) (r : List UInt8) (st st' : Nat) (h : step st c = some st') : acc (c :: r) st = (acc r st').map (· + 1) := by
  rw [acc, h]
theorem acc_none (c : UInt8) (r : List UInt8) (st : Nat) (h : step st c = none) : acc (c :: r) st = if accepting st = true then some 0 else none := by
  rw [acc, h]
theorem acc_nil (st : Nat) : acc [] st = if accepting st = true then some 0 else none := by rw [acc]

theorem step_lt (st : Nat) (c : UInt8) (st' : Nat) (h : step st c = some st') : st' ≤ 8 := by
  unfold step at h
  repeat' split at h
  all_goals first | (cases h; omega) | (simp at h; omega) | cases h

theorem dig_not (c : UInt8) (h : isDig c = true) : ¬ c.toNat = 46 ∧ ¬ c.toNat = 45 ∧ isExp c = false ∧ isSgn c = false := by
  have := (isDig_iff c).1 h
  refine ⟨by omega, by omega, ?_, ?_⟩
  · rw [Bool.eq_false_iff]; intro h; have := (isExp_iff c).1 h; omega
  · rw [Bool.eq_false_iff]; intro h; have := (isSgn_iff c).1 h; omega

theorem acc8 (l : List UInt8) : acc l 8 = some (run l) := by
  induction l with
  | nil => rfl
  | cons c r ih =>
    by_cases h : isDig c = true
    · rw [acc_some c r 8 8 (by simp [step, h]), ih, run_yes c r h]; rfl
    · rw [acc_none c r 8 (by simp [step, h]), run_no c r (by simpa using h)]; rfl
theorem acc7 (l : List UInt8) : acc l 7 = some1 l := by
  unfold some1
  cases l with
  | nil => rfl
  | cons c r =>
    by_cases h : isDig c = true
    · rw [acc_some c r 7 8 (by simp [step, h]), acc8, run_yes c r h, if_neg (by omega)]; rfl
    · rw [acc_none c r 7 (by simp [step, h]), run_no c r (by simpa using h)]; rfl
theorem acc6 (l : List UInt8) : acc l 6 = expD l := by
  cases l with
  | nil => rfl
  | cons c r =>
    rw [expD_cons]
    by_cases hs : isSgn c = true
    · rw [acc_some c r 6 7 (by simp [step, hs]), acc7, if_pos hs]
    · rw [if_neg hs]
      by_cases h : isDig c = true
      · rw [acc_some c r 6 8 (by simp [step, hs, h]), acc8]
        unfold some1
        rw [run_yes c r h, if_neg (by omega)]; rfl
      · rw [acc_none c r 6 (by simp [step, hs, h])]
        unfold some1
        rw [run_no c r (by simpa using h)]; rfl
theorem expo_no (c : UInt8) (r : List UInt8) (h : isExp c = false) : expo (c :: r) = some 0 := by
  rw [expo_cons]; rw [if_neg (by simp [h])]
theorem expo_yes (c : UInt8) (r : List UInt8) (h : isExp c = true) : expo (c :: r) = (expD r).map (· + 1) := by
  rw [expo_cons]; rw [if_pos h]
theorem map_add (o : Option Nat) (a b : Nat) : (o.map (· + a)).map (· + b) = o.map (· + (a + b)) := by
  cases o with
  | none => rfl
  | some x => simp; omega
theorem acc5 (l : List UInt8) : acc l 5 = (expo (l.drop (run l))).map (· + run l) := by
  induction l with
  | nil => rfl
  | cons c r ih =>
    by_cases h : isDig c = true
    · rw [acc_some c r 5 5 (by simp [step, h]), ih, run_yes c r h, map_add]; rfl
    · have h' : isDig c = false := by simpa using h
      rw [run_no c r h']
      by_cases he : isExp c = true
      · rw [acc_some c r 5 6 (by simp [step, h, he]), acc6, List.drop_zero, expo_yes c r he]
        cases expD r <;> rfl
      · rw [acc_none c r 5 (by simp [step, h, he]), List.drop_zero, expo_no c r (by simpa using he)]; rfl
theorem acc4 (l : List UInt8) : acc l 4 = if run l = 0 then none else (expo (l.drop (run l))).map (· + run l) := by
  cases l with
  | nil => rfl
  | cons c r =>
    by_cases h : isDig c = true
    · rw [acc_some c r 4 5 (by simp [step, h]), acc5, run_yes c r h, if_neg (by omega), map_add]; rfl
    · rw [acc_none c r 4 (by simp [step, h]), run_no c r (by simpa using h)]; rfl
theorem frac_dot (c : UInt8) (r : List UInt8) (h : c.toNat = 46) : frac (c :: r) = (acc r 4).map (· + 1) := by
  rw [frac_cons]
  rw [if_pos h, acc4]
  split
  · rfl
  · rw [map_add]
    simp only [Nat.add_assoc]
theorem frac_no (c : UInt8) (r : List UInt8) (h : ¬ c.toNat = 46) : frac (c :: r) = expo (c :: r) := by
  rw [frac_cons]; rw [if_neg h]
theorem acc2 (l : List UInt8) : acc l 2 = frac l := by
  cases l with
  | nil => rfl
  | cons c r =>
    by_cases h : c.toNat = 46
    · rw [acc_some c r 2 4 (by simp [step, h]), frac_dot c r h]
    · rw [frac_no c r h]
      by_cases he : isExp c = true
      · rw [acc_some c r 2 6 (by simp [step, h, he]), acc6, expo_yes c r he]
      · rw [acc_none c r 2 (by simp [step, h, he]), expo_no c r (by simpa using he)]; rfl
theorem acc3 (l : List UInt8) : acc l 3 = (frac (l.drop (run l))).map (· + run l) := by
  induction l with
  | nil => rfl
  | cons c r ih =>
    by_cases h : isDig c = true
    · rw [acc_some c r 3 3 (by simp [step, h]), ih, run_yes c r h, map_add]; rfl
    · have h' : isDig c = false := by simpa using h
      rw [run_no c r h', List.drop_zero]
      have e0 : ∀ o : Option Nat, o.map (· + 0) = o := fun o => by cases o <;> rfl
      rw [e0]
      by_cases hd : c.toNat = 46
      · rw [acc_some c r 3 4 (by simp [step, h, hd]), frac_dot c r hd]
      · rw [frac_no c r hd]
        by_cases he : isExp c = true
        · rw [acc_some c r 3 6 (by simp [step, h, hd, he]), acc6, expo_yes c r he]
        · rw [acc_none c r 3 (by simp [step, h, hd, he]), expo_no c r (by simpa using he)]; rfl
theorem int_step (c : UInt8) (r : List UInt8) (st : Nat) (h : ¬ c.toNat = 45) (hst : st = 0 ∨ st = 1) : acc (c :: r) st = intP (c :: r) := by
  rw [intP_cons]
  by_cases h0 : c.toNat = 48
  · rw [if_pos h0, ← acc2]
    rcases hst with rfl | rfl
    · exact acc_some c r 0 2 (by simp [step, h0])
    · exact acc_some c r 1 2 (by simp [step, h0])
  · rw [if_neg h0]
    by_cases hd : isDig c = true
    · rw [if_pos hd, ← acc3, acc_some c r 3 3 (by simp [step, hd])]
      rcases hst with rfl | rfl
      · exact acc_some c r 0 3 (by simp [step, h, h0, hd])
      · exact acc_some c r 1 3 (by simp [step, h0, hd])
    · rw [if_neg hd]
      rcases hst with rfl | rfl
      · rw [acc_none c r 0 (by simp [step, h, h0, hd])]; rfl
      · rw [acc_none c r 1 (by simp [step, h0, hd])]; rfl
theorem acc1 (l : List UInt8) : acc l 1 = intP l := by
  cases l with
  | nil => rfl
  | cons c r =>
    by_cases h : c.toNat = 45
    · have hd : ¬ isDig c = true := by intro hd; have := (isDig_iff c).1 hd; omega
      rw [acc_none c r 1 (by simp [step, h, hd])]
      rw [intP_cons]
      rw [if_neg (show ¬ c.toNat = 48 by omega), if_neg hd]; rfl
    · exact int_step c r 1 h (Or.inr rfl)
theorem acc0 (l : List UInt8) : acc l 0 = num l := by
  cases l with
  | nil => rfl
  | cons c r =>
    rw [num_cons]
    by_cases h : c.toNat = 45
    · rw [if_pos h, ← acc1]
      exact acc_some c r 0 1 (by simp [step, h])
    · rw [if_neg h]
      exact int_step c r 0 h (Or.inl rfl)
end Go.Proofs.Qxb6601198a
