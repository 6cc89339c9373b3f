import Derived.Test.Qxb6613674aKind
namespace Go.Proofs.Qxb6613674a
open Go.RowKit

/-- How many literal kinds lie below j. -/
def tot (j : Nat) : Int := if j ≤ 8 then 0 else if j = 9 then 1 else 2
/-- How many literal kinds lie below j and below k. -/
def bel (k : Int) (j : Nat) : Int := (if 8 < j ∧ 8 < k then 1 else 0) + (if 9 < j ∧ 9 < k then 1 else 0)

theorem tot_range (j : Nat) : 0 ≤ tot j ∧ tot j ≤ 2 := by
  unfold tot
  by_cases h1 : j ≤ 8
  · rw [if_pos h1]; omega
  · rw [if_neg h1]
    split <;> omega
theorem bel_range (k : Int) (j : Nat) : 0 ≤ bel k j ∧ bel k j ≤ 2 := by unfold bel; split <;> split <;> omega
theorem tot_hit {j : Nat} (h : litB (j : Int) = true) : tot (j + 1) = tot j + 1 := by
  have h' : (j : Int) = 8 ∨ (j : Int) = 9 := of_decide_eq_true h
  rcases h' with h' | h'
  · obtain rfl : j = 8 := by omega
    decide
  · obtain rfl : j = 9 := by omega
    decide
theorem tot_miss {j : Nat} (h : litB (j : Int) = false) : tot (j + 1) = tot j := by
  have h' : ¬ ((j : Int) = 8 ∨ (j : Int) = 9) := of_decide_eq_false h
  unfold tot
  by_cases h1 : j ≤ 8
  · rw [if_pos h1, if_pos (by omega)]
  · rw [if_neg h1, if_neg (show ¬ j = 9 by omega), if_neg (show ¬ j + 1 ≤ 8 by omega), if_neg (show ¬ j + 1 = 9 by omega)]
theorem bel_hit {k : Int} {j : Nat} (h : litB (j : Int) = true) (hk : (j : Int) < k) : bel k (j + 1) = bel k j + 1 := by
  have h' : (j : Int) = 8 ∨ (j : Int) = 9 := of_decide_eq_true h
  unfold bel
  rcases h' with h' | h'
  · obtain rfl : j = 8 := by omega
    rw [if_pos (by omega), if_neg (by omega), if_neg (by omega), if_neg (by omega)]
    omega
  · obtain rfl : j = 9 := by omega
    rw [if_pos (by omega), if_pos (by omega), if_pos (by omega), if_neg (by omega)]
    omega
theorem bel_same {k : Int} {j : Nat} (h : litB (j : Int) = false ∨ k ≤ (j : Int)) : bel k (j + 1) = bel k j := by
  have h' : ¬ ((j : Int) = 8 ∨ (j : Int) = 9) ∨ k ≤ (j : Int) := by
    rcases h with h | h
    · exact .inl (of_decide_eq_false h)
    · exact .inr h
  unfold bel
  by_cases h1 : 8 < j ∧ 8 < k
  · rw [if_pos h1, if_pos (by omega)]
    by_cases h2 : 9 < j ∧ 9 < k
    · rw [if_pos h2, if_pos (by omega)]
    · rw [if_neg h2, if_neg (by omega)]
  · rw [if_neg h1, if_neg (by omega)]
    by_cases h2 : 9 < j ∧ 9 < k
    · rw [if_pos h2, if_pos (by omega)]
    · rw [if_neg h2, if_neg (by omega)]

set_option maxHeartbeats 400000 in
set_option maxRecDepth 100000 in
/-- 'FnKindIsLiteralCountBelow' answers true at every k. -/
theorem count_walk (k : Int) (w0 : (Lit.int .u8 k).wf = true) (w : World) :
    Calls Try.prog 6 #[.int .u8 k] w fun e w' => e = .returned (.bool true) ∧ Grown w w' := by
  have hb := bounds_u8 w0
  obtain ⟨k0, k1⟩ := hb
  clear w0
  go_enter Try.func6, Try.ntmps6
  go_wp2
  go_loopg [3, 4, 5] 256 (fun g s3 s4 s5 wr => ∃ j : Nat, j ≤ 256 ∧ g = 256 - j ∧ s3 = .int .i64 (bel k j) ∧ s4 = .int .i64 (tot j) ∧ s5 = .int .i64 (j : Int) ∧ w = wr)
  case atStart => exact ⟨0, Nat.zero_le _, rfl, rfl, rfl, rfl, rfl⟩
  case round =>
    obtain ⟨j, hj, rfl, rfl, rfl, rfl, rfl⟩ := hrel
    obtain ⟨x1, x2⟩ := tot_range j
    obtain ⟨y1, y2⟩ := bel_range k j
    by_cases hlt : j < 256
    · go_wp2_with fail
      refine (lit16 _ _).mono ?_
      rintro e w' ⟨rfl, rfl⟩
      cases hl : litB (j : Int)
      · have HL : Aside (litB (j : Int) = false) := hl
        clear hl
        go_wp2
        go_roundg (256 - (j + 1))
        case measure => omega
        case rel => exact ⟨j + 1, by omega, rfl, by rw [bel_same (.inl HL.out)], by rw [tot_miss HL.out], by go_num, rfl⟩
      · have HL : Aside (litB (j : Int) = true) := hl
        clear hl
        by_cases hk : (j : Int) < k
        · go_wp2
          go_roundg (256 - (j + 1))
          case measure => omega
          case rel => exact ⟨j + 1, by omega, rfl, by rw [bel_hit HL.out hk], by rw [tot_hit HL.out], by go_num, rfl⟩
        · go_wp2
          go_roundg (256 - (j + 1))
          case measure => omega
          case rel => exact ⟨j + 1, by omega, rfl, by rw [bel_same (.inr (by omega))], by rw [tot_hit HL.out], by go_num, rfl⟩
    · obtain rfl : j = 256 := by omega
      have e1 : tot 256 = 2 := by decide
      rw [e1]
      clear e1 x1 x2
      by_cases h8 : k ≤ 8
      · have e2 : bel k 256 = 0 := by unfold bel; rw [if_neg (by omega), if_neg (by omega)]; rfl
        rw [e2]
        clear e2 y1 y2
        go_wp2
        go_ret
        exact ⟨rfl, Grown.refl _⟩
      by_cases h9 : k ≤ 9
      · have e2 : bel k 256 = 1 := by unfold bel; rw [if_pos (by omega), if_neg (by omega)]; rfl
        rw [e2]
        clear e2 y1 y2
        go_wp2
        go_ret
        exact ⟨rfl, Grown.refl _⟩
      · have e2 : bel k 256 = 2 := by unfold bel; rw [if_pos (by omega), if_pos (by omega)]; rfl
        rw [e2]
        clear e2 y1 y2
        go_wp2
        go_ret
        exact ⟨rfl, Grown.refl _⟩
end Go.Proofs.Qxb6613674a
