/-
  THE WALK of (*jsonReader).plain.
-/
import Derived.Test.Qxb6601198aRead
import Derived.Deep.CutBlock
namespace Go.Proofs.Qxb6601198a
open Go.RowKit

def trueS : ByteArray := ⟨#[116, 114, 117, 101]⟩
def falseS : ByteArray := ⟨#[102, 97, 108, 115, 101]⟩
def nullS : ByteArray := ⟨#[110, 117, 108, 108]⟩

/-- byte k is there and is c -/
def opens (d : ByteArray) (k c : Nat) : Bool := decide (d.data.toList[k]?.map (·.toNat) = some c)
theorem opens_lt (d : ByteArray) (k c : Nat) (h : k < d.size) : opens d k c = decide ((d[k].toNat : Int) = c) := by
  unfold opens
  have hl : d.data.toList.length = d.size := Array.length_toList
  rw [List.getElem?_eq_getElem (by omega)]
  apply decide_eq_decide.2
  simp only [Option.map_some, Option.some.injEq]
  have : d.data.toList[k].toNat = d[k].toNat := rfl
  omega
theorem opens_ge (d : ByteArray) (k c : Nat) (h : ¬ k < d.size) : opens d k c = false := by
  unfold opens
  have hl : d.data.toList.length = d.size := Array.length_toList
  rw [List.getElem?_eq_none (by omega)]
  simp

/-! ### what each stage says of the rest of the list -/
theorem drop_at (d : ByteArray) (k : Nat) (h : k < d.size) : d.data.toList.drop k = d[k] :: d.data.toList.drop (k + 1) := by
  rw [List.drop_eq_getElem_cons (by have : d.data.toList.length = d.size := Array.length_toList; omega)]
  rfl
theorem drop_end (d : ByteArray) (k : Nat) (h : ¬ k < d.size) : d.data.toList.drop k = [] :=
  List.drop_of_length_le (by have : d.data.toList.length = d.size := Array.length_toList; omega)
theorem opens_true (d : ByteArray) (k c : Nat) (h : opens d k c = true) : ∃ h : k < d.size, d[k].toNat = c := by
  by_cases hk : k < d.size
  · refine ⟨hk, ?_⟩
    rw [opens_lt d k c hk] at h
    have := of_decide_eq_true h
    omega
  · rw [opens_ge d k c hk] at h; cases h
theorem opens_false (d : ByteArray) (k c : Nat) (h : opens d k c = false) (hk : k < d.size) : ¬ d[k].toNat = c := by
  rw [opens_lt d k c hk] at h
  have := of_decide_eq_false h
  omega
theorem run_size (d : ByteArray) (k : Nat) (h : k ≤ d.size) : k + run (d.data.toList.drop k) ≤ d.size := by
  have h1 := run_le (d.data.toList.drop k)
  have : d.data.toList.length = d.size := Array.length_toList
  rw [List.length_drop] at h1
  omega

theorem stA (d : ByteArray) : (opens d 0 45 = true → 1 ≤ d.size ∧ num d.data.toList = (intP (d.data.toList.drop 1)).map (· + 1)) ∧ (opens d 0 45 = false → num d.data.toList = (intP (d.data.toList.drop 0)).map (· + 0)) := by
  constructor
  · intro h
    obtain ⟨h1, h2⟩ := opens_true d 0 45 h
    have h3 := drop_at d 0 h1
    rw [List.drop_zero] at h3
    refine ⟨by omega, ?_⟩
    conv => lhs; rw [h3, num_cons, if_pos h2]
  · intro h
    rw [map_zero, List.drop_zero]
    by_cases h1 : 0 < d.size
    · have h2 := opens_false d 0 45 h h1
      have h3 := drop_at d 0 h1
      rw [List.drop_zero] at h3
      rw [h3, num_cons, if_neg h2]
    · have h3 := drop_end d 0 h1
      rw [List.drop_zero] at h3
      rw [h3]; rfl
theorem stB0 (d : ByteArray) (k : Nat) (h : opens d k 48 = true) : k + 1 ≤ d.size ∧ intP (d.data.toList.drop k) = (frac (d.data.toList.drop (k + 1))).map (· + 1) := by
  obtain ⟨h1, h2⟩ := opens_true d k 48 h
  refine ⟨by omega, ?_⟩
  rw [drop_at d k h1, intP_cons, if_pos h2]
theorem stB1 (d : ByteArray) (k : Nat) (h : k < d.size) (h1 : 49 ≤ (d[k].toNat : Int)) (h2 : (d[k].toNat : Int) ≤ 57) : intP (d.data.toList.drop k) = (frac (d.data.toList.drop (k + run (d.data.toList.drop k)))).map (· + run (d.data.toList.drop k)) := by
  rw [← List.drop_drop]
  generalize hm : d.data.toList.drop k = m
  rw [drop_at d k h] at hm
  subst hm
  rw [intP_cons, if_neg (by omega), if_pos ((isDig_iff _).2 ⟨by omega, by omega⟩)]
theorem stB2 (d : ByteArray) (k : Nat) (h0 : opens d k 48 = false) (h : ∀ h : k < d.size, ¬ (49 ≤ (d[k].toNat : Int) ∧ (d[k].toNat : Int) ≤ 57)) : intP (d.data.toList.drop k) = none := by
  by_cases hk : k < d.size
  · have h1 := opens_false d k 48 h0 hk
    have h2 := h hk
    rw [drop_at d k hk, intP_cons, if_neg h1, if_neg]
    intro hd
    have := (isDig_iff _).1 hd
    omega
  · rw [drop_end d k hk]; rfl
theorem stC0 (d : ByteArray) (k : Nat) (h : opens d k 46 = true) : k + 1 ≤ d.size ∧ frac (d.data.toList.drop k) = if run (d.data.toList.drop (k + 1)) = 0 then none else (expo (d.data.toList.drop (k + 1 + run (d.data.toList.drop (k + 1))))).map (· + (run (d.data.toList.drop (k + 1)) + 1)) := by
  obtain ⟨h1, h2⟩ := opens_true d k 46 h
  refine ⟨by omega, ?_⟩
  rw [drop_at d k h1, frac_cons, if_pos h2, List.drop_drop]
  rfl
theorem stC1 (d : ByteArray) (k : Nat) (h : opens d k 46 = false) : frac (d.data.toList.drop k) = expo (d.data.toList.drop k) := by
  by_cases hk : k < d.size
  · rw [drop_at d k hk, frac_no _ _ (opens_false d k 46 h hk)]
  · rw [drop_end d k hk]; rfl
theorem stD0 (d : ByteArray) (k : Nat) (h : (opens d k 101 || opens d k 69) = true) : k + 1 ≤ d.size ∧ expo (d.data.toList.drop k) = (expD (d.data.toList.drop (k + 1))).map (· + 1) := by
  have key : ∃ h : k < d.size, isExp d[k] = true := by
    rcases Bool.or_eq_true_iff.1 h with h | h
    · obtain ⟨h1, h2⟩ := opens_true d k _ h
      exact ⟨h1, (isExp_iff _).2 (Or.inl h2)⟩
    · obtain ⟨h1, h2⟩ := opens_true d k _ h
      exact ⟨h1, (isExp_iff _).2 (Or.inr h2)⟩
  obtain ⟨h1, h2⟩ := key
  exact ⟨by omega, by rw [drop_at d k h1, expo_yes _ _ h2]⟩
theorem stD1 (d : ByteArray) (k : Nat) (h : (opens d k 101 || opens d k 69) = false) : expo (d.data.toList.drop k) = some 0 := by
  obtain ⟨h1, h2⟩ := Bool.or_eq_false_iff.1 h
  by_cases hk : k < d.size
  · rw [drop_at d k hk, expo_no]
    rw [Bool.eq_false_iff]
    intro he
    rcases (isExp_iff _).1 he with e | e
    · exact opens_false d k _ h1 hk e
    · exact opens_false d k _ h2 hk e
  · rw [drop_end d k hk]; rfl
theorem stE0 (d : ByteArray) (k : Nat) (h : (opens d k 43 || opens d k 45) = true) : k + 1 ≤ d.size ∧ expD (d.data.toList.drop k) = (some1 (d.data.toList.drop (k + 1))).map (· + 1) := by
  have key : ∃ h : k < d.size, isSgn d[k] = true := by
    rcases Bool.or_eq_true_iff.1 h with h | h
    · obtain ⟨h1, h2⟩ := opens_true d k _ h
      exact ⟨h1, (isSgn_iff _).2 (Or.inl h2)⟩
    · obtain ⟨h1, h2⟩ := opens_true d k _ h
      exact ⟨h1, (isSgn_iff _).2 (Or.inr h2)⟩
  obtain ⟨h1, h2⟩ := key
  exact ⟨by omega, by rw [drop_at d k h1, expD_cons, if_pos h2]⟩
theorem stE1 (d : ByteArray) (k : Nat) (h : (opens d k 43 || opens d k 45) = false) : expD (d.data.toList.drop k) = (some1 (d.data.toList.drop k)).map (· + 0) := by
  obtain ⟨h1, h2⟩ := Bool.or_eq_false_iff.1 h
  rw [map_zero]
  by_cases hk : k < d.size
  · rw [drop_at d k hk, expD_cons, if_neg]
    intro he
    rcases (isSgn_iff _).1 he with e | e
    · exact opens_false d k _ h1 hk e
    · exact opens_false d k _ h2 hk e
  · rw [drop_end d k hk]; rfl

/-- digits, the counter and the answer as numbers of their own -/
theorem digits_at (d : ByteArray) (i : Nat) (x : Int) (hx : x = (i : Int)) (hi : i ≤ d.size) (hs : d.size ≤ 1048576) (W : World) :
    Calls Try.prog 23 #[.string d, .int .i64 x] W fun e w' => e = .returned (.int .i64 ((i + run (d.data.toList.drop i) : Nat) : Int)) ∧ w' = W := by
  subst hx
  exact digits_any d i hi hs W

/-- how the call ends: refused, or so many bytes taken -/
def Took (d : ByteArray) (p : Int) (b : Nat) (w : World) (o : Option Nat) (e : Ending) (w' : World) : Prop :=
  match o with
  | none => e = .returned (.tuple #[.string ⟨#[]⟩, .bool false]) ∧ ∃ n, w' = w.drewN n
  | some k => e = .returned (.tuple #[.string (d.extract 0 k), .bool true]) ∧ ∃ n, w' = (w.drewN n).setCell ⟨b, 1, none⟩ (.int .i64 (p + k))

set_option maxHeartbeats 2000000 in
set_option maxRecDepth 100000 in
theorem plain_num (s d : ByteArray) (p : Int) (b : Nat) (hd : d.size ≤ 1048576) (hp0 : 0 ≤ p) (hp1 : p ≤ 1048576) (w : World)
    (hc0 : w.cell? ⟨b, 0, none⟩ = some (.string s)) (hc1 : w.cell? ⟨b, 1, none⟩ = some (.int .i64 p)) (hf : w.frozen? ⟨b, 1, none⟩ = false)
    (hsl : ∀ W, (Instr.slice 9 (.string s) (some (.int .i64 p)) none none).run Try.prog W = .ok (.string d) W)
    (k1 : ∀ W, Calls Try.prog 22 #[.string d, .string ⟨#[116, 114, 117, 101]⟩] W fun e w' => e = .returned (.bool false) ∧ w' = W)
    (k2 : ∀ W, Calls Try.prog 22 #[.string d, .string ⟨#[102, 97, 108, 115, 101]⟩] W fun e w' => e = .returned (.bool false) ∧ w' = W)
    (k3 : ∀ W, Calls Try.prog 22 #[.string d, .string ⟨#[110, 117, 108, 108]⟩] W fun e w' => e = .returned (.bool false) ∧ w' = W) :
    Calls Try.prog 17 #[.pointer (some ⟨b, 0, none⟩)] w fun e w' => Took d p b w (num d.data.toList) e w' := by
  have i0 : ∀ w, (Instr.index 40 (.agg #[.string ⟨#[116, 114, 117, 101]⟩, .string ⟨#[102, 97, 108, 115, 101]⟩, .string ⟨#[110, 117, 108, 108]⟩]) (.int .i64 0)).run Try.prog w = .ok (.string ⟨#[116, 114, 117, 101]⟩) w := fun _ => by kernel_rfl
  have i1 : ∀ w, (Instr.index 40 (.agg #[.string ⟨#[116, 114, 117, 101]⟩, .string ⟨#[102, 97, 108, 115, 101]⟩, .string ⟨#[110, 117, 108, 108]⟩]) (.int .i64 1)).run Try.prog w = .ok (.string ⟨#[102, 97, 108, 115, 101]⟩) w := fun _ => by kernel_rfl
  have i2 : ∀ w, (Instr.index 40 (.agg #[.string ⟨#[116, 114, 117, 101]⟩, .string ⟨#[102, 97, 108, 115, 101]⟩, .string ⟨#[110, 117, 108, 108]⟩]) (.int .i64 2)).run Try.prog w = .ok (.string ⟨#[110, 117, 108, 108]⟩) w := fun _ => by kernel_rfl
  have K1 : Hid _ := k1
  have K2 : Hid _ := k2
  have K3 : Hid _ := k3
  clear k1 k2 k3
  go_enter Try.func17, Try.ntmps17
  go_wp2
  go_quiet (fail)
  go_wp2
  go_loop [20] (fun a => ∃ k : Nat, k ≤ 3 ∧ a = .int .i64 k) (fun a => 3 - (intOf a).toNat)
  case atStart => exact ⟨0, by omega, rfl⟩
  case round =>
    obtain ⟨k, hk, rfl⟩ := hrel
    match k, hk with
    | 0, _ =>
      go_wp2_with fail
      refine (K1.out _).mono ?_
      rintro e w' ⟨rfl, rfl⟩
      go_wp2
      go_round
      case rel => exact ⟨1, by omega, rfl⟩
      case measure => simp [intOf]
    | 1, _ => 
      go_wp2_with fail
      refine (K2.out _).mono ?_
      rintro e w' ⟨rfl, rfl⟩
      go_wp2
      go_round
      case rel => exact ⟨2, by omega, rfl⟩
      case measure => simp [intOf]
    | 2, _ => 
      go_wp2_with fail
      refine (K3.out _).mono ?_
      rintro e w' ⟨rfl, rfl⟩
      go_wp2
      go_round
      case rel => exact ⟨3, by omega, rfl⟩
      case measure => simp [intOf]
    | 3, _ =>
      clear K1 K2 K3 i0 i1 i2 hsl hc0
      go_upto_region 10 with fail
      go_cut [46] (fun t wx => t = .bool (opens d 0 45) ∧ wx = w.drewN nq)
      case first =>
        by_cases h1 : 0 < d.size
        · have ho := opens_lt d 0 45 h1
          go_wp2
          all_goals go_meet
          all_goals exact ⟨by rw [ho]; rfl, rfl⟩
        · have ho := opens_ge d 0 45 h1
          go_wp2
          all_goals go_meet
          all_goals exact ⟨by rw [ho], rfl⟩
      case rest =>
        obtain ⟨rfl, rfl⟩ := hcut
        go_upto_if 46 with fail
        go_cut [7] (fun a wx => ∃ k : Nat, a = .int .i64 k ∧ k ≤ d.size ∧ Hid (num d.data.toList = (intP (d.data.toList.drop k)).map (· + k)) ∧ wx = w.drewN nq)
        case first =>
          have hA := stA d
          cases hb : opens d 0 45
          · have HA : Hid _ := hA.2 hb
            clear hA
            go_wp2
            all_goals go_meet
            all_goals exact ⟨0, rfl, by omega, HA, rfl⟩
          · obtain ⟨hA1, hA2⟩ := hA.1 hb
            have HA : Hid _ := hA2
            clear hA hA2
            go_wp2
            all_goals go_meet
            all_goals exact ⟨1, rfl, hA1, HA, rfl⟩
        case rest =>
          obtain ⟨k, rfl, hk, HA, rfl⟩ := hcut
          go_upto_block 2 with fail
          go_cut [7] (fun a wx => ∃ k : Nat, a = .int .i64 k ∧ k ≤ d.size ∧ Hid (num d.data.toList = (frac (d.data.toList.drop k)).map (· + k)) ∧ wx = w.drewN nq)
          case first =>
            cases h48 : opens d k 48 with
            | true =>
              obtain ⟨h1, h2⟩ := stB0 d k h48
              obtain ⟨h3, h4⟩ := opens_true d k 48 h48
              have HB : Hid (num d.data.toList = (frac (d.data.toList.drop (k + 1))).map (· + (k + 1))) := by
                show num d.data.toList = _
                rw [HA.out, h2, map_add, Nat.add_comm]
              have h5 : ((d[k].toNat : Int) == 48) = true := by simp; omega
              clear HA h2 h48 h4
              go_wp2
              all_goals go_meet
              all_goals exact ⟨k + 1, by go_num, h1, HB, rfl⟩
            | false =>
              by_cases hkd : k < d.size
              · have h4 := opens_false d k 48 h48 hkd
                have h5 : ((d[k].toNat : Int) == 48) = false := by simp; omega
                by_cases hin : 49 ≤ (d[k].toNat : Int) ∧ (d[k].toNat : Int) ≤ 57
                · obtain ⟨h6, h7⟩ := hin
                  have h2 := stB1 d k hkd h6 h7
                  have h3 := run_size d k hk
                  have HB : Hid (num d.data.toList = (frac (d.data.toList.drop (k + run (d.data.toList.drop k)))).map (· + (k + run (d.data.toList.drop k)))) := by
                    show num d.data.toList = _
                    rw [HA.out, h2, map_add, Nat.add_comm]
                  have hdg := digits_any d k hk hd
                  generalize k + run (d.data.toList.drop k) = j at HB hdg h3
                  clear HA h2 h48 h4
                  go_wp2_with (go_at_call 23; refine (hdg _).mono ?_; rintro e w' ⟨rfl, rfl⟩)
                  all_goals go_meet
                  all_goals exact ⟨j, rfl, h3, HB, rfl⟩
                · have h2 := stB2 d k h48 fun _ => hin
                  have HN : Hid (num d.data.toList = none) := by
                    show num d.data.toList = none
                    rw [HA.out, h2]; rfl
                  clear HA h2 h48 h4
                  by_cases h6 : 49 ≤ (d[k].toNat : Int)
                  · have h7 : ¬ (d[k].toNat : Int) ≤ 57 := fun h => hin ⟨h6, h⟩
                    clear hin
                    go_wp2
                    go_ret2
                    rw [HN.out]
                    exact ⟨rfl, _, rfl⟩
                  · clear hin
                    go_wp2
                    go_ret2
                    rw [HN.out]
                    exact ⟨rfl, _, rfl⟩
              · have h2 := stB2 d k h48 fun h => absurd h hkd
                have HN : Hid (num d.data.toList = none) := by
                  show num d.data.toList = none
                  rw [HA.out, h2]; rfl
                clear HA h2 h48
                go_wp2
                go_ret2
                rw [HN.out]
                exact ⟨rfl, _, rfl⟩
          case rest =>
            clear HA hk
            obtain ⟨k, rfl, hk, HA, rfl⟩ := hcut
            go_upto_region 17 with fail
            go_cut [91] (fun t wx => t = .bool (opens d k 46) ∧ wx = w.drewN nq)
            case first =>
              by_cases h1 : k < d.size
              · have ho := opens_lt d k 46 h1
                go_wp2
                all_goals go_meet
                all_goals exact ⟨by rw [ho]; rfl, rfl⟩
              · have ho := opens_ge d k 46 h1
                go_wp2
                all_goals go_meet
                all_goals exact ⟨by rw [ho], rfl⟩
            case rest =>
              obtain ⟨rfl, rfl⟩ := hcut
              go_upto_if 91 with fail
              go_cut [7] (fun a wx => ∃ k : Nat, a = .int .i64 k ∧ k ≤ d.size ∧ Hid (num d.data.toList = (expo (d.data.toList.drop k)).map (· + k)) ∧ wx = w.drewN nq)
              case first =>
                cases hb : opens d k 46
                · have h2 := stC1 d k hb
                  have HB : Hid (num d.data.toList = (expo (d.data.toList.drop k)).map (· + k)) := by
                    show num d.data.toList = _
                    rw [HA.out, h2]
                  clear HA h2
                  go_wp2
                  all_goals go_meet
                  all_goals exact ⟨k, rfl, hk, HB, rfl⟩
                · obtain ⟨h1, h2⟩ := stC0 d k hb
                  have h3 := run_size d (k + 1) h1
                  have hdg := digits_at d (k + 1) ((k : Int) + 1) (by omega) h1 hd
                  by_cases hr : run (d.data.toList.drop (k + 1)) = 0
                  · have HN : Hid (num d.data.toList = none) := by
                      show num d.data.toList = none
                      rw [HA.out, h2, if_pos hr]; rfl
                    have h4 : (((k + 1 + run (d.data.toList.drop (k + 1)) : Nat) : Int) == (k : Int) + 1) = true := by simp; omega
                    generalize k + 1 + run (d.data.toList.drop (k + 1)) = j at hdg h3 h4
                    clear HA h2 hr
                    go_wp2_with (go_at_call 23; refine (hdg _).mono ?_; rintro e w' ⟨rfl, rfl⟩)
                    go_ret2
                    rw [HN.out]
                    exact ⟨rfl, _, rfl⟩
                  · have HB : Hid (num d.data.toList = (expo (d.data.toList.drop (k + 1 + run (d.data.toList.drop (k + 1))))).map (· + (k + 1 + run (d.data.toList.drop (k + 1))))) := by
                      show num d.data.toList = _
                      rw [HA.out, h2, if_neg hr, map_add]
                      congr 1
                      funext x
                      omega
                    have h4 : (((k + 1 + run (d.data.toList.drop (k + 1)) : Nat) : Int) == (k : Int) + 1) = false := by simp; omega
                    generalize k + 1 + run (d.data.toList.drop (k + 1)) = j at hdg h3 h4 HB
                    clear HA h2 hr
                    go_wp2_with (go_at_call 23; refine (hdg _).mono ?_; rintro e w' ⟨rfl, rfl⟩)
                    all_goals go_meet
                    all_goals exact ⟨j, rfl, h3, HB, rfl⟩
              case rest =>
                clear HA hk
                obtain ⟨k, rfl, hk, HA, rfl⟩ := hcut
                go_upto_region 22 with fail
                go_cut [116] (fun t wx => t = .bool (opens d k 101 || opens d k 69) ∧ wx = w.drewN nq)
                case first =>
                  by_cases h1 : k < d.size
                  · have ho := opens_lt d k 101 h1
                    have ho2 := opens_lt d k 69 h1
                    have HO : Hid (opens d k 101 = decide ((d[k].toNat : Int) = 101) ∧ opens d k 69 = decide ((d[k].toNat : Int) = 69)) := ⟨ho, ho2⟩
                    clear ho ho2
                    by_cases c1 : (d[k].toNat : Int) = 101
                    · have c1' : ((d[k].toNat : Int) == 101) = true := by simpa using c1
                      have HC : Hid ((d[k].toNat : Int) = 101) := c1
                      clear c1
                      go_wp2
                      all_goals go_meet
                      all_goals exact ⟨by rw [HO.out.1, HC.out]; rfl, rfl⟩
                    · have c1' : ((d[k].toNat : Int) == 101) = false := by simpa using c1
                      go_wp2
                      all_goals go_meet
                      all_goals exact ⟨by rw [HO.out.1, HO.out.2, decide_eq_false c1]; rfl, rfl⟩
                  · have ho := opens_ge d k 101 h1
                    have ho2 := opens_ge d k 69 h1
                    go_wp2
                    all_goals go_meet
                    all_goals exact ⟨by rw [ho, ho2]; rfl, rfl⟩
                case rest =>
                  obtain ⟨rfl, rfl⟩ := hcut
                  go_upto_if 116 with fail
                  go_cut [7] (fun a wx => ∃ k : Nat, a = .int .i64 k ∧ k ≤ d.size ∧ Hid (num d.data.toList = some k) ∧ wx = w.drewN nq)
                  case first =>
                    cases hb : opens d k 101 || opens d k 69
                    · have h2 := stD1 d k hb
                      have HB : Hid (num d.data.toList = some k) := by
                        show num d.data.toList = some k
                        rw [HA.out, h2]; simp
                      clear HA h2
                      go_wp2
                      all_goals go_meet
                      all_goals exact ⟨k, rfl, hk, HB, rfl⟩
                    · obtain ⟨h1, h2⟩ := stD0 d k hb
                      have HB : Hid (num d.data.toList = (expD (d.data.toList.drop (k + 1))).map (· + (k + 1))) := by
                        show num d.data.toList = _
                        rw [HA.out, h2, map_add, Nat.add_comm]
                      obtain ⟨i, hi⟩ : ∃ i : Nat, k + 1 = i := ⟨_, rfl⟩
                      rw [hi] at HB h1
                      have HI : Hid (k + 1 = i) := hi
                      clear HA h2 hi
                      go_upto_region 24 with fail
                      go_cut [7, 134] (fun a t wx => a = .int .i64 (i : Int) ∧ t = .bool (opens d i 43 || opens d i 45) ∧ wx = w.drewN nq)
                      case first =>
                        have ei : (k : Int) + 1 = (i : Int) := by have := HI.out; omega
                        by_cases h3 : i < d.size
                        · have ho := opens_lt d i 43 h3
                          have ho2 := opens_lt d i 45 h3
                          have HO : Hid (opens d i 43 = decide ((d[i].toNat : Int) = 43) ∧ opens d i 45 = decide ((d[i].toNat : Int) = 45)) := ⟨ho, ho2⟩
                          clear ho ho2
                          by_cases c1 : (d[i].toNat : Int) = 43
                          · have c1' : ((d[i].toNat : Int) == 43) = true := by simpa using c1
                            have HC : Hid ((d[i].toNat : Int) = 43) := c1
                            clear c1
                            go_wp2
                            all_goals go_meet
                            all_goals exact ⟨rfl, by rw [HO.out.1, HC.out]; rfl, rfl⟩
                          · have c1' : ((d[i].toNat : Int) == 43) = false := by simpa using c1
                            go_wp2
                            all_goals go_meet
                            all_goals exact ⟨rfl, by rw [HO.out.1, HO.out.2, decide_eq_false c1]; rfl, rfl⟩
                        · have ho := opens_ge d i 43 h3
                          have ho2 := opens_ge d i 45 h3
                          go_wp2
                          all_goals go_meet
                          all_goals exact ⟨rfl, by rw [ho, ho2]; rfl, rfl⟩
                      case rest =>
                        obtain ⟨rfl, rfl, rfl⟩ := hcut
                        go_upto_if 134 with fail
                        go_cut [7] (fun a wx => ∃ k : Nat, a = .int .i64 k ∧ k ≤ d.size ∧ Hid (num d.data.toList = (some1 (d.data.toList.drop k)).map (· + k)) ∧ wx = w.drewN nq)
                        case first =>
                          cases hg : opens d i 43 || opens d i 45
                          · have h2 := stE1 d i hg
                            have HG : Hid (num d.data.toList = (some1 (d.data.toList.drop i)).map (· + i)) := by
                              show num d.data.toList = _
                              rw [HB.out, h2, map_zero]
                            clear HB h2
                            go_wp2
                            all_goals go_meet
                            all_goals exact ⟨i, rfl, h1, HG, rfl⟩
                          · obtain ⟨h3, h2⟩ := stE0 d i hg
                            have HG : Hid (num d.data.toList = (some1 (d.data.toList.drop (i + 1))).map (· + (i + 1))) := by
                              show num d.data.toList = _
                              rw [HB.out, h2, map_add, Nat.add_comm]
                            clear HB h2
                            go_wp2
                            all_goals go_meet
                            all_goals exact ⟨i + 1, by go_num, h3, HG, rfl⟩
                        case rest =>
                          clear HB h1 HI hk
                          obtain ⟨k, rfl, hk, HA, rfl⟩ := hcut
                          have h3 := run_size d k hk
                          have hdg := digits_any d k hk hd
                          by_cases hr : run (d.data.toList.drop k) = 0
                          · have HN : Hid (num d.data.toList = none) := by
                              show num d.data.toList = none
                              rw [HA.out]
                              unfold some1
                              rw [if_pos hr]; rfl
                            have h4 : (((k + run (d.data.toList.drop k) : Nat) : Int) == (k : Int)) = true := by simp; omega
                            generalize k + run (d.data.toList.drop k) = j at hdg h3 h4
                            clear HA hr
                            go_wp2_with (go_at_call 23; refine (hdg _).mono ?_; rintro e w' ⟨rfl, rfl⟩)
                            go_ret2
                            rw [HN.out]
                            exact ⟨rfl, _, rfl⟩
                          · have HB : Hid (num d.data.toList = some (k + run (d.data.toList.drop k))) := by
                              show num d.data.toList = _
                              rw [HA.out]
                              unfold some1
                              rw [if_neg hr]
                              simp [Nat.add_comm]
                            have h4 : (((k + run (d.data.toList.drop k) : Nat) : Int) == (k : Int)) = false := by simp; omega
                            generalize k + run (d.data.toList.drop k) = j at hdg h3 h4 HB
                            clear HA hr
                            go_wp2_with (go_at_call 23; refine (hdg _).mono ?_; rintro e w' ⟨rfl, rfl⟩)
                            all_goals go_meet
                            all_goals exact ⟨j, rfl, h3, HB, rfl⟩
                  case rest =>
                    clear HA hk
                    obtain ⟨k, rfl, hk, HA, rfl⟩ := hcut
                    go_wp2
                    go_ret2
                    rw [HA.out]
                    exact ⟨rfl, _, rfl⟩
end Go.Proofs.Qxb6601198a
