/-
  THE WALKS of (*jsonReader).plain and of digits.
-/
import Derived.Test.Qxb6601198aShelf
import Derived.Test.Qxb6601198aModelLen
import Derived.Deep.DeepCutAuto
namespace Go.Proofs.Qxb6601198a
open Go.RowKit

theorem run_get (l : List UInt8) (k j : Nat) (h : k + j < l.length) (hj : j ≤ run (l.drop k)) : (isDig l[k + j] = true → j + 1 ≤ run (l.drop k)) ∧ (isDig l[k + j] = false → run (l.drop k) = j) := by
  have key : ∀ (m : List UInt8) (j : Nat) (h : j < m.length), j ≤ run m → (isDig m[j] = true → j + 1 ≤ run m) ∧ (isDig m[j] = false → run m = j) := by
    intro m
    induction m with
    | nil => intro j h; simp at h
    | cons x r ih =>
      intro j h hj
      cases j with
      | zero =>
        simp only [List.getElem_cons_zero]
        exact ⟨fun hx => by rw [run_yes x r hx]; omega, fun hx => run_no x r hx⟩
      | succ j =>
        by_cases hx : isDig x = true
        · rw [run_yes x r hx] at hj ⊢
          simp only [List.getElem_cons_succ]
          have := ih j (by simpa using h) (by omega)
          exact ⟨fun hp => by have := this.1 hp; omega, fun hp => by have := this.2 hp; omega⟩
        · rw [run_no x r (by simpa using hx)] at hj
          omega
  have := key (l.drop k) j (by rw [List.length_drop]; omega) hj
  rw [List.getElem_drop] at this
  exact this

set_option maxHeartbeats 1000000 in
set_option maxRecDepth 100000 in
theorem digits_any (d : ByteArray) (i : Nat) (hi : i ≤ d.size) (hs : d.size ≤ 1048576) (w : World) :
    Calls Try.prog 23 #[.string d, .int .i64 (i : Int)] w fun e w' => e = .returned (.int .i64 ((i + run (d.data.toList.drop i) : Nat) : Int)) ∧ w' = w := by
  have hl : d.data.toList.length = d.size := Array.length_toList
  have hr := run_le (d.data.toList.drop i)
  rw [List.length_drop, hl] at hr
  have HL : Hid (d.data.toList.length = d.size ∧ run (d.data.toList.drop i) ≤ d.size - i) := ⟨hl, hr⟩
  clear hl hr
  go_enter Try.func23, Try.ntmps23
  go_wp2
  go_loop [1] (fun a => ∃ j k : Nat, k ≤ d.size ∧ a = .int .i64 (k : Int) ∧ Hid (i + j = k) ∧ Hid (j ≤ run (d.data.toList.drop i))) (fun a => d.size - (intOf a).toNat)
  case atStart => exact ⟨0, i, hi, rfl, Nat.add_zero i, Nat.zero_le _⟩
  case round =>
    obtain ⟨j, k, hj, rfl, HK, HJ⟩ := hrel
    by_cases hlt : k < d.size
    · have hg := run_get d.data.toList i j (by rw [HL.out.1, HK.out]; exact hlt) HJ.out
      have e1 : d.data.toList[i + j]'(by rw [HL.out.1, HK.out]; exact hlt) = d[k] := by
        have h := HK.out
        subst h
        rfl
      rw [e1] at hg
      have HG : Hid ((isDig d[k] = true → j + 1 ≤ run (d.data.toList.drop i)) ∧ (isDig d[k] = false → run (d.data.toList.drop i) = j)) := hg
      clear hg e1
      by_cases hd : isDig d[k] = true
      · obtain ⟨h1, h2⟩ := (isDig_iff _).1 hd
        go_wp2
        go_round
        case rel => exact ⟨j + 1, k + 1, by omega, by go_num, by have := HK.out; show i + (j + 1) = k + 1; omega, HG.out.1 hd⟩
        case measure => simp [intOf]; omega
      · have h' : ¬ (48 ≤ d[k].toNat ∧ d[k].toNat ≤ 57) := fun h => hd ((isDig_iff _).2 h)
        have HN : Hid (run (d.data.toList.drop i) = j) := HG.out.2 (by simpa using hd)
        clear hd HG
        by_cases h1 : 48 ≤ d[k].toNat
        · have h2 : ¬ d[k].toNat ≤ 57 := fun h => h' ⟨h1, h⟩
          clear h'
          go_wp2
          go_ret
          exact ⟨ret_int (by have h3 := HN.out; have h4 := HK.out; omega), rfl⟩
        · clear h'
          go_wp2
          go_ret
          exact ⟨ret_int (by have h3 := HN.out; have h4 := HK.out; omega), rfl⟩
    · go_wp2
      go_ret
      have h1 := HK.out
      have h2 := HJ.out
      have h3 := HL.out.2
      exact ⟨ret_int (by omega), rfl⟩
end Go.Proofs.Qxb6601198a
