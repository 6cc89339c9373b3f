import Derived.Test.Qxb6613590aPrecClone
namespace Go.Proofs.Qxb6613590a
open Go.RowKit

set_option maxRecDepth 1000000 in
/-- The inputs at which she answers true at once, by their lengths. -/
theorem mir_early (a0 : Option Addr) (l0 c0 : Nat) (x : Int) (a1 : Option Addr) (l1 c1 : Nat) (a2 : Option Addr) (l2 c2 : Nat) (u v : Int) (w : World) (h0 : l0 ≤ 9223372036854775807) (h1 : l1 ≤ 9223372036854775807) (h2 : l2 ≤ 9223372036854775807)
    (h : ¬ (l0 + l1 + l2 ≤ 1048576 ∧ l0 ≤ 65536 ∧ l1 ≤ 32768 ∧ l2 ≤ 32768)) :
    Calls Try.prog 7 #[.slice a0 l0 c0, .int .i64 x, .slice a1 l1 c1, .slice a2 l2 c2, .int .i32 u, .int .i32 v] w fun e w' => e = .returned (.bool true) ∧ Below w.heap.size w w' := by
  by_cases hs : l0 + l1 + l2 ≤ 1048576
  · have hd : decide (l0 + l1 + l2 ≤ 1048576) = true := decide_eq_true hs
    have u0 : (l0 : Int) ≤ 1048576 := by omega
    have u1 : (l1 : Int) ≤ 1048576 := by omega
    have u2 : (l2 : Int) ≤ 1048576 := by omega
    have H : Aside (¬ (l0 + l1 + l2 ≤ 1048576 ∧ l0 ≤ 65536 ∧ l1 ≤ 32768 ∧ l2 ≤ 32768)) := h
    have HS : Aside (l0 + l1 + l2 ≤ 1048576) := hs
    clear h h0 h1 h2 hs
    by_cases g0 : l0 ≤ 65536
    · have k0 : decide ((65536 : Int) < (l0 : Int)) = false := decide_eq_false (by omega)
      have G0 : Aside (l0 ≤ 65536) := g0
      clear g0
      by_cases g1 : l1 ≤ 32768
      · have k1 : decide ((32768 : Int) < (l1 : Int)) = false := decide_eq_false (by omega)
        have G1 : Aside (l1 ≤ 32768) := g1
        clear g1
        have k2 : decide ((32768 : Int) < (l2 : Int)) = true := decide_eq_true (by
          have g2 : ¬ l2 ≤ 32768 := fun e => H.out ⟨HS.out, G0.out, G1.out, e⟩
          omega)
        go_enter Try.func7, Try.ntmps7
        go_wp2_with fail
        refine (bytes20 _ _ _ _ _ _ _ _ _ _ _ _ _ (by omega) (by omega) (by omega)).mono ?_
        rintro e w' ⟨rfl, rfl⟩
        rw [hd]
        clear hd
        go_wp2
        go_ret
        exact ⟨rfl, Below.refl _ _⟩
      · have k1 : decide ((32768 : Int) < (l1 : Int)) = true := decide_eq_true (by omega)
        have G1 : Aside (¬ l1 ≤ 32768) := g1
        clear g1
        go_enter Try.func7, Try.ntmps7
        go_wp2_with fail
        refine (bytes20 _ _ _ _ _ _ _ _ _ _ _ _ _ (by omega) (by omega) (by omega)).mono ?_
        rintro e w' ⟨rfl, rfl⟩
        rw [hd]
        clear hd
        go_wp2
        go_ret
        exact ⟨rfl, Below.refl _ _⟩
    · have k0 : decide ((65536 : Int) < (l0 : Int)) = true := decide_eq_true (by omega)
      have G0 : Aside (¬ l0 ≤ 65536) := g0
      clear g0
      go_enter Try.func7, Try.ntmps7
      go_wp2_with fail
      refine (bytes20 _ _ _ _ _ _ _ _ _ _ _ _ _ (by omega) (by omega) (by omega)).mono ?_
      rintro e w' ⟨rfl, rfl⟩
      rw [hd]
      clear hd
      go_wp2
      go_ret
      exact ⟨rfl, Below.refl _ _⟩
  · have hd : decide (l0 + l1 + l2 ≤ 1048576) = false := decide_eq_false hs
    clear hs h
    go_enter Try.func7, Try.ntmps7
    go_wp2_with fail
    refine (bytes20 _ _ _ _ _ _ _ _ _ _ _ _ _ (by omega) (by omega) (by omega)).mono ?_
    rintro e w' ⟨rfl, rfl⟩
    rw [hd]
    clear hd
    go_wp2
    go_ret
    exact ⟨rfl, Below.refl _ _⟩
end Go.Proofs.Qxb6613590a
