/-
  THE WALK of FnParseNumberReadsBackEveryNumber: true at every uint64.
-/
import Derived.Test.Qxb6600430aDoorFmt
import Derived.Test.Qxb6600430aDoorParse
namespace Go.Proofs.Qxb6600430aDoor
open Go.RowKit Go.Lib

theorem gSyn : Tryd.prog.globalNamed "strconv.ErrSyntax" = some 0 := by kernel_rfl
theorem gRng : Tryd.prog.globalNamed "strconv.ErrRange" = some 1 := by kernel_rfl

theorem pnum_digs (n : Nat) (h0 : n ≠ 0) (h : n ≤ 18446744073709551615) : pnum (digs 20 n) = (n, true) := by
  obtain ⟨c, r, e, hc⟩ := digs_head 20 n h0 (by omega)
  have hp := parse_digs 20 n (by omega) h
  rw [e] at hp ⊢
  unfold pnum
  rw [if_neg (by
    rintro ⟨_, h2⟩
    simp only [List.head?_cons, Option.some.injEq] at h2
    exact hc (by rw [h2]; rfl))]
  unfold parseUintB
  rw [if_neg (by simp), show 2 ^ 64 - 1 = 18446744073709551615 from rfl, hp]
  rfl

set_option maxHeartbeats 1000000 in
set_option maxRecDepth 100000 in
theorem back_via (n : Int) (s : ByteArray) (w : World)
    (h1 : Calls Tryd.prog 11 #[.int .u64 n] w fun e w' => e = .returned (.string s) ∧ Below w.heap.size w w')
    (h2 : ∀ w1, Below w.heap.size w w1 → Calls Tryd.prog 8 #[.string s] w1 fun e w' => e = .returned (.tuple #[.int .u64 n, .bool true]) ∧ Below w1.heap.size w1 w') :
    Calls Tryd.prog 5 #[.int .u64 n] w fun e w' => e = .returned (.bool true) ∧ Below w.heap.size w w' := by
  have H1 : Hid (Calls Tryd.prog 11 #[.int .u64 n] w fun e w' => e = .returned (.string s) ∧ Below w.heap.size w w') := h1
  have H2 : Hid (∀ w1, Below w.heap.size w w1 → Calls Tryd.prog 8 #[.string s] w1 fun e w' => e = .returned (.tuple #[.int .u64 n, .bool true]) ∧ Below w1.heap.size w1 w') := h2
  clear h1 h2
  go_enter Tryd.func5, Tryd.ntmps5
  go_wp2_with fail
  refine H1.out.mono ?_
  rintro e w1 ⟨rfl, hb⟩
  have H3 := H2.out w1 hb
  go_wp2_with fail
  refine H3.mono ?_
  rintro e w2 ⟨rfl, hb2⟩
  go_wp2
  go_ret
  exact ⟨rfl, hb.trans (hb2.mono hb.size)⟩

/-- true at every uint64, where the two sentinels are interface values -/
theorem back_any (n : Int) (h0 : 0 ≤ n) (h : n ≤ 18446744073709551615) (w : World) (tp0 tp1 : TypeId) (p0 p1 : Value)
    (hv0 : w.var? Tryd.prog "strconv.ErrSyntax" = some #[.iface tp0 p0]) (hv1 : w.var? Tryd.prog "strconv.ErrRange" = some #[.iface tp1 p1]) :
    Calls Tryd.prog 5 #[.int .u64 n] w fun e w' => e = .returned (.bool true) ∧ Below w.heap.size w w' := by
  have g0 : 0 < w.heap.size := Lib.lt_of_cell (by have h0 := World.var?_cell gSyn hv0 0; simpa using h0 : w.cell? ⟨0, 0, none⟩ = some (.iface tp0 p0))
  have g1 : 1 < w.heap.size := Lib.lt_of_cell (by have h0 := World.var?_cell gRng hv1 0; simpa using h0 : w.cell? ⟨1, 0, none⟩ = some (.iface tp1 p1))
  by_cases hz : n = 0
  · subst hz
    refine back_via 0 ⟨#[48]⟩ w ((fmt_zero w).mono ?_) fun w1 hb => (parse_any ⟨#[48]⟩ w1 (by decide) tp0 tp1 p0 p1 (var?_below hb gSyn g0 hv0) (var?_below hb gRng g1 hv1)).mono ?_
    · rintro e w' ⟨rfl, rfl⟩
      exact ⟨rfl, Below.refl _ _⟩
    · rintro e w' ⟨rfl, hb⟩
      exact ⟨rfl, hb⟩
  · have hn : n.toNat ≠ 0 := by omega
    have hs : (⟨(digs 20 n.toNat).toArray⟩ : ByteArray).size ≤ 281474976710656 := by
      have := digs_len 20 n.toNat
      show (digs 20 n.toNat).toArray.size ≤ _
      simp
      omega
    refine back_via n _ w (fmt_pos n w (by omega) h) fun w1 hb => (parse_any _ w1 hs tp0 tp1 p0 p1 (var?_below hb gSyn g0 hv0) (var?_below hb gRng g1 hv1)).mono ?_
    rintro e w' ⟨rfl, hb⟩
    have ep : pnum (digs 20 n.toNat).toArray.toList = (n.toNat, true) := by rw [List.toList_toArray]; exact pnum_digs _ hn (by omega)
    refine ⟨?_, hb⟩
    rw [ep]
    have : ((n.toNat : Nat) : Int) = n := by omega
    rw [this]
end Go.Proofs.Qxb6600430aDoor
