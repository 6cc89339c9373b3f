import Derived.Test.Qxb6613590aFirstCalls
import Derived.Test.Qxb6613590aKit
namespace Go.Proofs.Qxb6613590a
open Go.RowKit

set_option maxRecDepth 1000000 in
/-- The inputs at which she answers true at once. -/
theorem walk_early (a0 a1 : Option Addr) (l0 l1 c0 c1 : Nat) (x : Int) (w : World) (h0 : l0 ≤ 9223372036854775807) (h1 : l1 ≤ 9223372036854775807) (h : ¬ (l0 + l1 ≤ 1048576 ∧ l0 ≤ 65536 ∧ l1 ≤ 65536 ∧ 0 < l0 ∧ l1 = l0)) :
    Calls Try.prog 5 #[.slice a0 l0 c0, .slice a1 l1 c1, .int .i32 x] w fun e w' => e = .returned (.bool true) ∧ Below w.heap.size w w' := by
  by_cases hs : l0 + l1 ≤ 1048576
  · have hd : decide (l0 + l1 ≤ 1048576) = true := decide_eq_true hs
    have u0 : (l0 : Int) ≤ 1048576 := by omega
    have u1 : (l1 : Int) ≤ 1048576 := by omega
    have H : Aside (¬ (l0 + l1 ≤ 1048576 ∧ l0 ≤ 65536 ∧ l1 ≤ 65536 ∧ 0 < l0 ∧ l1 = l0)) := h
    have HS : Aside (l0 + l1 ≤ 1048576) := hs
    clear h h0 h1 hs
    by_cases g0 : l0 ≤ 65536
    · have k0 : decide ((65536 : Int) < (l0 : Int)) = false := decide_eq_false (by omega)
      have G0 : Aside (l0 ≤ 65536) := g0
      clear g0
      by_cases g1 : l1 ≤ 65536
      · have k1 : decide ((65536 : Int) < (l1 : Int)) = false := decide_eq_false (by omega)
        have G1 : Aside (l1 ≤ 65536) := g1
        clear g1
        by_cases g2 : l0 = 0
        · subst g2
          go_enter Try.func5, Try.ntmps5
          go_wp2_with fail
          refine (bytes14 _ _ _ _ _ _ _ _ (by omega) (by omega)).mono ?_
          rintro e w' ⟨rfl, rfl⟩
          rw [hd]
          clear hd
          go_wp2
          go_ret
          exact ⟨rfl, Below.refl _ _⟩
        · have k2 : ((l0 : Int) == 0) = false := beq_eq_false_iff_ne.2 (by omega)
          have g3 : ¬ l1 = l0 := fun e => H.out ⟨HS.out, G0.out, G1.out, by omega, e⟩
          have k3 : ((l1 : Int) != (l0 : Int)) = true := by simp; omega
          go_enter Try.func5, Try.ntmps5
          go_wp2_with fail
          refine (bytes14 _ _ _ _ _ _ _ _ (by omega) (by omega)).mono ?_
          rintro e w' ⟨rfl, rfl⟩
          rw [hd]
          clear hd
          go_wp2
          go_ret
          exact ⟨rfl, Below.refl _ _⟩
      · have k1 : decide ((65536 : Int) < (l1 : Int)) = true := decide_eq_true (by omega)
        have G1 : Aside (¬ l1 ≤ 65536) := g1
        clear g1
        go_enter Try.func5, Try.ntmps5
        go_wp2_with fail
        refine (bytes14 _ _ _ _ _ _ _ _ (by omega) (by omega)).mono ?_
        rintro e w' ⟨rfl, rfl⟩
        rw [hd]
        clear hd
        go_wp2
        go_ret
        exact ⟨rfl, Below.refl _ _⟩
    · have k0 : decide ((65536 : Int) < (l0 : Int)) = true := decide_eq_true (by omega)
      have G0 : Aside (¬ l0 ≤ 65536) := g0
      clear g0
      go_enter Try.func5, Try.ntmps5
      go_wp2_with fail
      refine (bytes14 _ _ _ _ _ _ _ _ (by omega) (by omega)).mono ?_
      rintro e w' ⟨rfl, rfl⟩
      rw [hd]
      clear hd
      go_wp2
      go_ret
      exact ⟨rfl, Below.refl _ _⟩
  · have hd : decide (l0 + l1 ≤ 1048576) = false := decide_eq_false hs
    clear hs h
    go_enter Try.func5, Try.ntmps5
    go_wp2_with fail
    refine (bytes14 _ _ _ _ _ _ _ _ (by omega) (by omega)).mono ?_
    rintro e w' ⟨rfl, rfl⟩
    rw [hd]
    clear hd
    go_wp2
    go_ret
    exact ⟨rfl, Below.refl _ _⟩
end Go.Proofs.Qxb6613590a
