/-
  THE PLAIN LAWS of the seat b6600430aD: no Go in sight. The decimal digits of a number ('digs') read back by the library's plain 'Lib.parseUintM'; the decimal model that finds overflow by comparing texts ('model') answers as 'Lib.parseUintM' does.
-/
import Derived.Lib.ParseIntBCases
namespace Go.Proofs.Qxb6600430aDoor
open Go Go.Lib

theorem parseM_dig (M acc : Nat) (c : UInt8) (r : List UInt8) (h : 48 ≤ c.toNat ∧ c.toNat ≤ 57) : parseUintM M acc (c :: r) =
    if 1844674407370955162 ≤ acc then .range else if M < acc * 10 + (c.toNat - 48) then .range else parseUintM M (acc * 10 + (c.toNat - 48)) r := by
  rw [parseUintM, if_pos h]

/-- decimal digits, none for 0 -/
def digs : Nat → Nat → List UInt8
  | 0, _ => []
  | f + 1, m => if m = 0 then [] else digs f (m / 10) ++ [UInt8.ofNat (48 + m % 10)]

theorem parseM_snoc (M : Nat) (c : UInt8) : ∀ (l : List UInt8) (acc a : Nat), parseUintM M acc l = .ok a → parseUintM M acc (l ++ [c]) = parseUintM M a [c]
  | [], acc, a, h => by
    simp only [parseUintM, NumEnd.ok.injEq] at h
    subst h; rfl
  | x :: r, acc, a, h => by
    rw [List.cons_append]
    unfold parseUintM at h ⊢
    by_cases h1 : 48 ≤ x.toNat ∧ x.toNat ≤ 57
    · rw [if_pos h1] at h ⊢
      by_cases h2 : 1844674407370955162 ≤ acc
      · rw [if_pos h2] at h; cases h
      · rw [if_neg h2] at h ⊢
        by_cases h3 : M < acc * 10 + (x.toNat - 48)
        · rw [if_pos h3] at h; cases h
        · rw [if_neg h3] at h ⊢
          exact parseM_snoc M c r _ a h
    · rw [if_neg h1] at h; cases h

theorem dig_toNat (m : Nat) : (UInt8.ofNat (48 + m % 10)).toNat = 48 + m % 10 := by
  rw [UInt8.toNat_ofNat']
  omega

theorem parse_digs : ∀ (f m : Nat), m < 10 ^ f → m ≤ 18446744073709551615 → parseUintM 18446744073709551615 0 (digs f m) = .ok m
  | 0, m, h, _ => by
    have : m = 0 := by simpa using h
    subst this; rfl
  | f + 1, m, h, hm => by
    unfold digs
    by_cases h0 : m = 0
    · rw [if_pos h0]; subst h0; rfl
    · rw [if_neg h0]
      have ih := parse_digs f (m / 10) (by rw [Nat.pow_succ] at h; omega) (by omega)
      rw [parseM_snoc _ _ _ _ _ ih]
      unfold parseUintM
      rw [dig_toNat, if_pos (by omega), if_neg (by omega), if_neg (by omega)]
      unfold parseUintM
      congr 1
      omega

theorem digs_ne (f m : Nat) (h : m ≠ 0) : digs (f + 1) m ≠ [] := by
  unfold digs
  rw [if_neg h]
  simp

theorem digs_zero : ∀ f, digs f 0 = []
  | 0 => rfl
  | f + 1 => by unfold digs; rw [if_pos rfl]

theorem digs_head : ∀ (f m : Nat), m ≠ 0 → m < 10 ^ f → ∃ c r, digs f m = c :: r ∧ c.toNat ≠ 48
  | 0, m, h0, h => absurd (by simpa using h) h0
  | f + 1, m, h0, h => by
    unfold digs
    rw [if_neg h0]
    by_cases h1 : m / 10 = 0
    · rw [h1, digs_zero]
      refine ⟨_, [], rfl, ?_⟩
      rw [dig_toNat]; omega
    · obtain ⟨c, r, e, hc⟩ := digs_head f (m / 10) h1 (by rw [Nat.pow_succ] at h; omega)
      rw [e]
      exact ⟨c, r ++ _, rfl, hc⟩

theorem digs_fuel : ∀ (f g m : Nat), m < 10 ^ f → m < 10 ^ g → digs f m = digs g m
  | 0, g, m, h, _ => by
    have : m = 0 := by simpa using h
    subst this; rw [digs_zero, digs_zero]
  | f + 1, 0, m, _, h => by
    have : m = 0 := by simpa using h
    subst this; rw [digs_zero, digs_zero]
  | f + 1, g + 1, m, h, h' => by
    unfold digs
    by_cases h0 : m = 0
    · rw [if_pos h0, if_pos h0]
    · rw [if_neg h0, if_neg h0, digs_fuel f g (m / 10) (by rw [Nat.pow_succ] at h; omega) (by rw [Nat.pow_succ] at h'; omega)]

theorem digs_len : ∀ (f m : Nat), (digs f m).length ≤ f
  | 0, _ => Nat.le_refl _
  | f + 1, m => by
    unfold digs
    split
    · simp
    · simp; exact digs_len f _

/-! ### the decimal model -/
def isDig (c : UInt8) : Bool := decide (48 ≤ c.toNat ∧ c.toNat ≤ 57)
theorem isDig_iff (c : UInt8) : isDig c = true ↔ 48 ≤ c.toNat ∧ c.toNat ≤ 57 := by unfold isDig; simp

def valL : List UInt8 → Nat → Nat
  | [], acc => acc
  | c :: r, acc => valL r (acc * 10 + (c.toNat - 48))
def valAcc (acc : Nat) (l : List UInt8) : Nat := valL l acc

theorem valAcc_cons (acc : Nat) (c : UInt8) (r : List UInt8) : valAcc acc (c :: r) = valAcc (acc * 10 + (c.toNat - 48)) r := by
  simp only [valAcc, valL]
theorem valAcc_nil (acc : Nat) : valAcc acc [] = acc := rfl

theorem valAcc_le (l : List UInt8) : ∀ (acc : Nat), acc ≤ valAcc acc l := by
  induction l with
  | nil => intro acc; exact Nat.le_refl _
  | cons c r ih => intro acc; rw [valAcc_cons]; have := ih (acc * 10 + (c.toNat - 48)); omega

theorem valAcc_append : ∀ (l r : List UInt8) (acc : Nat), valAcc acc (l ++ r) = valAcc (valAcc acc l) r
  | [], _, _ => rfl
  | c :: l, r, acc => by rw [List.cons_append, valAcc_cons, valAcc_cons]; exact valAcc_append l r _

theorem parse_run (M : Nat) (hM : M = 18446744073709551615) : ∀ (d rest : List UInt8) (acc : Nat), (∀ c ∈ d, isDig c = true) → acc ≤ M → parseUintM M acc (d ++ rest) = if M < valAcc acc d then .range else parseUintM M (valAcc acc d) rest
  | [], rest, acc, _, ha => by rw [valAcc_nil, if_neg (by omega)]; rfl
  | c :: d, rest, acc, hd, ha => by
    have hc := (isDig_iff c).1 (hd c (List.mem_cons_self))
    have hr : ∀ c ∈ d, isDig c = true := fun x hx => hd x (List.mem_cons_of_mem _ hx)
    rw [List.cons_append, parseM_dig _ _ _ _ hc]
    have hv : acc * 10 + (c.toNat - 48) ≤ valAcc acc (c :: d) := valAcc_le d _
    by_cases h2 : 1844674407370955162 ≤ acc
    · rw [if_pos h2, if_pos (by omega)]
    · rw [if_neg h2]
      by_cases h3 : M < acc * 10 + (c.toNat - 48)
      · rw [if_pos h3, if_pos (by omega)]
      · rw [if_neg h3, parse_run M hM d rest _ hr (by omega)]
        rw [valAcc_cons]

theorem valAcc_lo (l : List UInt8) : ∀ (acc : Nat), acc * 10 ^ l.length ≤ valAcc acc l := by
  induction l with
  | nil => intro acc; rw [valAcc_nil]; simp
  | cons c r ih =>
    intro acc
    rw [valAcc_cons]
    have := ih (acc * 10 + (c.toNat - 48))
    rw [List.length_cons, Nat.pow_succ]
    have h2 : acc * (10 ^ r.length * 10) ≤ (acc * 10 + (c.toNat - 48)) * 10 ^ r.length := by
      rw [Nat.mul_comm (10 ^ r.length) 10, ← Nat.mul_assoc]
      exact Nat.mul_le_mul_right _ (by omega)
    exact Nat.le_trans h2 this

theorem valAcc_hi (l : List UInt8) : ∀ (acc : Nat), (∀ c ∈ l, isDig c = true) → valAcc acc l < (acc + 1) * 10 ^ l.length := by
  induction l with
  | nil => intro acc _; rw [valAcc_nil]; simp
  | cons c r ih =>
    intro acc hd
    have hc := (isDig_iff c).1 (hd c (List.mem_cons_self))
    rw [valAcc_cons]
    have := ih (acc * 10 + (c.toNat - 48)) (fun x hx => hd x (List.mem_cons_of_mem _ hx))
    rw [List.length_cons, Nat.pow_succ]
    have h2 : (acc * 10 + (c.toNat - 48) + 1) * 10 ^ r.length ≤ (acc + 1) * (10 ^ r.length * 10) := by
      rw [Nat.mul_comm (10 ^ r.length) 10, ← Nat.mul_assoc]
      exact Nat.mul_le_mul_right _ (by omega)
    exact Nat.lt_of_lt_of_le this h2

def gtL : List UInt8 → List UInt8 → Bool
  | a :: r, b :: s => if a.toNat = b.toNat then gtL r s else decide (b.toNat < a.toNat)
  | _, _ => false

theorem gtL_iff (a : List UInt8) : ∀ (b : List UInt8) (acc : Nat), a.length = b.length → (∀ c ∈ a, isDig c = true) → (∀ c ∈ b, isDig c = true) → (gtL a b = true ↔ valAcc acc b < valAcc acc a) := by
  induction a with
  | nil =>
    intro b acc h _ _
    cases b with
    | nil => simp [gtL]
    | cons _ _ => simp at h
  | cons x a ih =>
    intro b acc h ha hb
    cases b with
    | nil => simp at h
    | cons y b =>
      have hx := (isDig_iff x).1 (ha x (List.mem_cons_self))
      have hy := (isDig_iff y).1 (hb y (List.mem_cons_self))
      have ha' : ∀ c ∈ a, isDig c = true := fun z hz => ha z (List.mem_cons_of_mem _ hz)
      have hb' : ∀ c ∈ b, isDig c = true := fun z hz => hb z (List.mem_cons_of_mem _ hz)
      have hl : a.length = b.length := by simpa using h
      rw [valAcc_cons, valAcc_cons, show gtL (x :: a) (y :: b) = if x.toNat = y.toNat then gtL a b else decide (y.toNat < x.toNat) from rfl]
      by_cases e : x.toNat = y.toNat
      · rw [if_pos e, e]
        exact ih b _ hl ha' hb'
      · rw [if_neg e]
        simp only [decide_eq_true_eq]
        have l1 := valAcc_lo a (acc * 10 + (x.toNat - 48))
        have l2 := valAcc_hi a (acc * 10 + (x.toNat - 48)) ha'
        have l3 := valAcc_lo b (acc * 10 + (y.toNat - 48))
        have l4 := valAcc_hi b (acc * 10 + (y.toNat - 48)) hb'
        rw [← hl] at l3 l4
        constructor
        · intro hlt
          have := Nat.mul_le_mul_right (10 ^ a.length) (show acc * 10 + (y.toNat - 48) + 1 ≤ acc * 10 + (x.toNat - 48) by omega)
          exact Nat.lt_of_lt_of_le l4 (Nat.le_trans this l1)
        · intro hlt
          refine Nat.lt_of_not_le fun hle => ?_
          have := Nat.mul_le_mul_right (10 ^ a.length) (show acc * 10 + (x.toNat - 48) + 1 ≤ acc * 10 + (y.toNat - 48) by omega)
          exact absurd (Nat.lt_of_lt_of_le l2 (Nat.le_trans this l3)) (Nat.not_lt.2 (Nat.le_of_lt hlt))

def maxL : List UInt8 := [49, 56, 52, 52, 54, 55, 52, 52, 48, 55, 51, 55, 48, 57, 53, 53, 49, 54, 49, 53]
theorem maxL_val : valAcc 0 maxL = 18446744073709551615 := by decide
theorem maxL_dig : ∀ c ∈ maxL, isDig c = true := by decide

def aboveMax (d : List UInt8) : Bool := if d.length = 20 then gtL d maxL else decide (20 < d.length)

theorem above_iff (d : List UInt8) (hd : ∀ c ∈ d, isDig c = true) (hz : 1 < d.length → ∀ c r, d = c :: r → c.toNat ≠ 48) : aboveMax d = true ↔ 18446744073709551615 < valAcc 0 d := by
  unfold aboveMax
  by_cases h : d.length = 20
  · rw [if_pos h, ← maxL_val]
    exact gtL_iff d maxL 0 h hd maxL_dig
  · rw [if_neg h]
    simp only [decide_eq_true_eq]
    constructor
    · intro hl
      match d, hd, hz, hl with
      | c :: r, hd, hz, hl =>
        have hc := (isDig_iff c).1 (hd c (List.mem_cons_self))
        have hc0 := hz (by omega) c r rfl
        rw [valAcc_cons]
        have l1 := valAcc_lo r (0 * 10 + (c.toNat - 48))
        have l2 : 10 ^ 20 ≤ 10 ^ r.length := Nat.pow_le_pow_right (by omega) (by simp at hl; omega)
        have l3 := Nat.mul_le_mul_right (10 ^ r.length) (show 1 ≤ 0 * 10 + (c.toNat - 48) by omega)
        omega
    · intro hv
      refine Nat.lt_of_not_le fun hle => ?_
      have l1 := valAcc_hi d 0 hd
      have l2 : 10 ^ d.length ≤ 10 ^ 19 := Nat.pow_le_pow_right (by omega) (by omega)
      omega

/-- the answer of parseNumber behind its test for a leading zero -/
def answer : NumEnd Nat → Nat × Bool
  | .ok u => (u, true)
  | .range => (18446744073709551615, false)
  | _ => (0, false)

/-- the answer of the model behind its first two tests -/
def model (l : List UInt8) : Nat × Bool :=
  if aboveMax (l.takeWhile isDig) = true then (18446744073709551615, false)
  else if (l.takeWhile isDig).length < l.length then (0, false)
  else (valAcc 0 l, true)

theorem takeWhile_dig (l : List UInt8) : ∀ c ∈ l.takeWhile isDig, isDig c = true := by
  induction l with
  | nil => intro c hc; simp at hc
  | cons x r ih =>
    intro c hc
    rw [List.takeWhile_cons] at hc
    split at hc
    · rcases List.mem_cons.1 hc with rfl | h
      · assumption
      · exact ih c h
    · simp at hc

theorem split_run : ∀ (l : List UInt8), (l.takeWhile isDig = l) ∨ ∃ c r, l = l.takeWhile isDig ++ c :: r ∧ isDig c = false
  | [] => Or.inl rfl
  | x :: r => by
    rw [List.takeWhile_cons]
    by_cases h : isDig x = true
    · simp only [h, if_true]
      rcases split_run r with e | ⟨c, s, e, hc⟩
      · left; rw [e]
      · right; exact ⟨c, s, by rw [List.cons_append, ← e], hc⟩
    · simp only [h]
      right
      exact ⟨x, r, rfl, by simpa using h⟩

theorem model_eq (l : List UInt8) (hz : 1 < l.length → ∀ c r, l = c :: r → c.toNat ≠ 48) : answer (parseUintM 18446744073709551615 0 l) = model l := by
  have hd := takeWhile_dig l
  have hz' : 1 < (l.takeWhile isDig).length → ∀ c r, l.takeWhile isDig = c :: r → c.toNat ≠ 48 := by
    intro hl c r e
    have hle : (l.takeWhile isDig).length ≤ l.length := (List.takeWhile_prefix isDig).length_le
    match l, hz, hle, e with
    | x :: s, hz, hle, e =>
      have : x = c := by
        rw [List.takeWhile_cons] at e
        split at e
        · exact (List.cons.inj e).1
        · cases e
      subst this
      exact hz (by omega) x s rfl
  have ha := above_iff _ hd hz'
  unfold model
  rcases split_run l with e | ⟨c, r, e, hc⟩
  · rw [e] at ha hd ⊢
    have hp := parse_run _ rfl l [] 0 hd (by omega)
    rw [List.append_nil] at hp
    rw [hp]
    by_cases h : aboveMax l = true
    · rw [if_pos h, if_pos (ha.1 h)]; rfl
    · rw [if_neg h, if_neg (fun h' => h (ha.2 h')), if_neg (by omega)]; rfl
  · have hlen : (l.takeWhile isDig).length < l.length := by
      have := congrArg List.length e
      rw [List.length_append, List.length_cons] at this
      omega
    have hp := parse_run _ rfl (l.takeWhile isDig) (c :: r) 0 hd (by omega)
    rw [← e] at hp
    rw [hp]
    by_cases h : aboveMax (l.takeWhile isDig) = true
    · rw [if_pos h, if_pos (ha.1 h)]; rfl
    · rw [if_neg h, if_neg (fun h' => h (ha.2 h')), if_pos hlen]
      unfold parseUintM
      rw [if_neg (fun hh => by rw [(isDig_iff c).2 hh] at hc; cases hc)]
      rfl

end Go.Proofs.Qxb6600430aDoor
