/-
  ONE ROUND of the law of the greatest flow: augment once; the flow so far goes on, or no path is left.
-/
import Derived.Test.Qxb6601175aStart
import Derived.Test.Qxb6601175aAugment
namespace Go.Proofs.Qxb6601175a
open Go.RowKit

/-- the graph behind c paths -/
def ASt (w7 wr : World) (B n bg bw ba bd bv bn cn nl src en : Nat) (A0 : Nat → List Nat) (c : Nat) (arcs : List (List Nat)) : Prop :=
  ∃ (R : Nat → Rw) (ao : Option Addr) (co : Nat) (at' : Option Addr) (ct : Nat) (d : List Int) (via O : List Nat) (next : List Int) (trail : List Nat),
    GS wr B n bg bw R arcs ba n bd n bv n (.slice ao O.length co) (sl bn next.length cn) (.slice at' trail.length ct) d via O next trail ∧ Flow n src en A0 (fun0 arcs) c ∧ next.length = nl ∧ 2 * next.length = n ∧
    d.length = n ∧ via.length = n ∧ O.length ≤ n ∧ (∀ x ∈ O, x < n) ∧ (∀ v, v < n → d.getD v (-1) = -1 ∨ v ∈ O) ∧ Below B w7 wr

theorem own_form {w : World} {B : Nat} {v : Value} {l : List Nat} (h : Own1 w B ⟨3, v, ints (nz l)⟩) : ∃ ao co, v = .slice ao l.length co := by
  rcases h.form with ⟨h1, h2⟩ | ⟨b, cap, cur, h1, _⟩
  · dsimp only at h1 h2
    have hz : l = [] := by
      have := congrArg List.length h2
      rw [ints_length, nz_length] at this
      exact List.length_eq_zero_iff.1 this
    exact ⟨none, 0, by rw [h1, hz]; rfl⟩
  · dsimp only at h1
    rw [ints_length, nz_length] at h1
    exact ⟨_, _, h1⟩

/-- what a round says: a path more; or none is left -/
def RoundPost (w7 : World) (B n bg bw ba bd bv bn cn nl src en : Nat) (A0 : Nat → List Nat) (c : Nat) (e : Ending) (w' : World) : Prop :=
  (e = .returned (.bool true) ∧ ∃ arcs, ASt w7 w' B n bg bw ba bd bv bn cn nl src en A0 (c + 1) arcs) ∨
  (e = .returned (.bool false) ∧ ∃ arcs, ASt w7 w' B n bg bw ba bd bv bn cn nl src en A0 c arcs ∧ ∀ k, ¬ Path (fun0 arcs) k src en)

theorem round43 (w7 w : World) (B n bg bw ba bd bv bn cn nl s t src en c : Nat) (A0 : Nat → List Nat) (arcs : List (List Nat)) (es : 2 * (s : Int) = (src : Int)) (et : 2 * (t : Int) = (en : Int)) (hse : src ≠ en) (hn : n ≤ 1048576) (hsrc : src < n) (hen : en < n)
    (hA0 : ∀ u, (A0 u).length ≤ 2097152) (h : ASt w7 w B n bg bw ba bd bv bn cn nl src en A0 c arcs) :
    Calls Try.prog 43 #[.pointer (some ⟨bg, 0, none⟩), .int .i64 (s : Int), .int .i64 (t : Int)] w (RoundPost w7 B n bg bw ba bd bv bn cn nl src en A0 c) := by
  obtain ⟨R, ao, co, at', ct, d, via, O, next, trail, hG, hF, h0, h1, h2, h3, h4, h5, h6, h7⟩ := h
  refine (augment_any w B n bg bw R arcs ba n bd n bv n ao co bn cn at' ct d via O next trail s t src en es et hn hsrc hen h1 h2 h3 h4 h5 h6 (fun u => ⟨Nat.le_trans (hF.len' u) (hA0 u), hF.rng u⟩) hF.sorted hG).mono ?_
  rintro e w' ⟨ok, R', vo', vt', d', via', O', T, arcs', next', trail', rfl, hA⟩
  obtain ⟨ao2, co2, rfl⟩ := own_form hA.gs.ws.rowO
  obtain ⟨at2, ct2, rfl⟩ := own_form hA.gs.rowT
  have hB := hA.bfs
  have hO : ∀ x ∈ O', x < n := fun x hx => hB.lt_of_mem hx
  have hd : ∀ v, v < n → d'.getD v (-1) = -1 ∨ v ∈ O' := fun v hv => by
    by_cases e : v ∈ O'
    · exact .inr e
    · exact .inl (hB.neg v hv e)
  rcases hA.ends with ⟨e1, rfl, rfl, rfl, rfl⟩ | ⟨e1, rfl, e2, e3, e4, e5, e6, e7⟩
  · refine .inr ⟨rfl, arcs', ⟨R', ao2, co2, at2, ct2, d', via', O', next', trail', hA.gs, hF, h0, h1, hB.dlen, hB.vlen, hB.olen, hO, hd, h7.trans hA.below⟩, fun k hk => ?_⟩
    have := (hB.inO en hen).2 (hB.reach k en hk)
    omega
  · have hr := Run.all _ e2
    have hF' := hF.step hse hr.1 hr.2.1 e3 hr.2.2.1 (fun x hx => hO x (e4 x hx))
    rw [← e6] at hF'
    have hnl : next'.length = next.length := by rw [e7, nxt_length]
    refine .inl ⟨rfl, arcs', ⟨R', ao2, co2, at2, ct2, d', via', O', next', trail', ?_, hF', by omega, by omega, hB.dlen, hB.vlen, hB.olen, hO, hd, h7.trans hA.below⟩⟩
    rw [hnl]
    exact hA.gs

set_option maxHeartbeats 1000000 in
set_option maxRecDepth 100000 in
theorem round28 (w7 w : World) (B n bg bw ba bd bv bn cn nl src en c : Nat) (A0 : Nat → List Nat) (s t : Int) (h : Calls Try.prog 43 #[.pointer (some ⟨bg, 0, none⟩), .int .i64 s, .int .i64 t] w (RoundPost w7 B n bg bw ba bd bv bn cn nl src en A0 c)) :
    Calls Try.prog 28 #[.pointer (some ⟨bg, 0, none⟩), .int .i64 s, .int .i64 t] w (RoundPost w7 B n bg bw ba bd bv bn cn nl src en A0 c) := by
  have H : Hid _ := h
  clear h
  go_enter Try.func28, Try.ntmps28
  go_wp2_with fail
  refine Calls.mono H.out ?_
  rintro e w' (⟨rfl, hp⟩ | ⟨rfl, hp⟩)
  · have HP : Hid _ := hp
    clear hp
    go_wp2
    go_ret
    exact .inl ⟨rfl, HP⟩
  · have HP : Hid _ := hp
    clear hp
    go_wp2
    go_ret
    exact .inr ⟨rfl, HP⟩
end Go.Proofs.Qxb6601175a
