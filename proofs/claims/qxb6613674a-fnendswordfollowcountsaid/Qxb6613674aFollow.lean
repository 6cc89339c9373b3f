import Derived.Test.Qxb6613674aEnds
import Derived.Test.Qxb6613674aMsql
namespace Go.Proofs.Qxb6613674a
open Go.RowKit

/-- How many of the ASCII bytes below j let the word end. -/
def asc (ok : Bool) (j : Nat) : Int := if ok then ((min j 128 : Nat) : Int) - ((if 34 < j then 1 else 0) + (if 39 < j then 1 else 0) + (if 96 < j then 1 else 0)) else 0
/-- How many of the other bytes below j do. -/
def high (ok uni : Bool) (j : Nat) : Int := if ok && !uni then ((j - 128 : Nat) : Int) else 0

theorem step_all : ∀ ok uni : Bool, ∀ j : Nat, j < 256 → asc ok (j + 1) = asc ok j + (if (ok && nextB uni (j : Int)) && decide (j < 128) then 1 else 0) ∧ high ok uni (j + 1) = high ok uni j + (if (ok && nextB uni (j : Int)) && !decide (j < 128) then 1 else 0) ∧
    0 ≤ asc ok j ∧ asc ok j ≤ 256 ∧ 0 ≤ high ok uni j ∧ high ok uni j ≤ 256 := by decide +kernel

theorem Prof.alloc {w : World} {g : Nat} {uni lf : Bool} (h : Prof w g uni lf) (o : Obj) : Prof (w.alloc o) g uni lf := by
  have hg : g < w.heap.size := World.block_lt_of_cell? _ _ h.cu
  exact ⟨by rw [World.cell?_alloc_old _ _ _ (by show g ≠ w.heap.size; omega)]; exact h.cu, by rw [World.cell?_alloc_old _ _ _ (by show g ≠ w.heap.size; omega)]; exact h.cl⟩

set_option maxHeartbeats 1600000 in
set_option maxRecDepth 100000 in
/-- 'FnEndsWordFollowCount' answers true at every profile and first byte. -/
theorem follow_walk (uni lf : Bool) (c : Int) (w : World) :
    Calls Try.prog 8 #[.bool uni, .bool lf, .int .u8 c] w fun e w' => e = .returned (.bool true) ∧ Grown w w' := by
  go_enter Try.func8, Try.ntmps8
  go_wp2_with fail
  refine (prof14 uni lf w).mono ?_
  rintro e w1 ⟨rfl, hP, hG⟩
  go_wp2
  go_loopg [8, 9, 10] 256 (fun g s8 s9 s10 wr => ∃ j : Nat, j ≤ 256 ∧ g = 256 - j ∧ s8 = .int .i64 (asc (okB lf c) j) ∧ s9 = .int .i64 (high (okB lf c) uni j) ∧ s10 = .int .i64 (j : Int) ∧ Prof wr w.heap.size uni lf ∧ Grown w wr)
  case atStart => exact ⟨0, Nat.zero_le _, rfl, by cases okB lf c <;> rfl, by cases okB lf c <;> cases uni <;> rfl, rfl, hP, hG⟩
  case round =>
    obtain ⟨j, hj, rfl, rfl, rfl, rfl, hP2, hG2⟩ := hrel
    clear hP hG
    by_cases hlt : j < 256
    · obtain ⟨e1, e2, a1, a2, y1, y2⟩ := step_all (okB lf c) uni j hlt
      have S : Aside (asc (okB lf c) (j + 1) = asc (okB lf c) j + (if (okB lf c && nextB uni (j : Int)) && decide (j < 128) then 1 else 0) ∧ high (okB lf c) uni (j + 1) = high (okB lf c) uni j + (if (okB lf c && nextB uni (j : Int)) && !decide (j < 128) then 1 else 0)) := ⟨e1, e2⟩
      have hcv := conv1 wr j hlt
      obtain ⟨x, hx⟩ : ∃ x, asc (okB lf c) j = x := ⟨_, rfl⟩
      obtain ⟨y, hy⟩ : ∃ y, high (okB lf c) uni j = y := ⟨_, rfl⟩
      rw [hx] at S a1 a2 ⊢
      rw [hy] at S y1 y2 ⊢
      clear e1 e2 hx hy
      go_wp2_with fail
      refine (ends_in w.heap.size uni lf c (one j) 0 j _ (hP2.alloc _) (by rw [one_size]; omega) (one_get j hlt _)).mono ?_
      rintro e w' ⟨rfl, rfl⟩
      obtain ⟨r, hr⟩ : ∃ r, (okB lf c && nextB uni (j : Int)) = r := ⟨_, rfl⟩
      rw [hr] at S ⊢
      clear hr
      have hP3 := hP2.alloc (.cells #[.int .u8 (j : Int)] 5)
      have hG3 := hG2.alloc #[.int .u8 (j : Int)] 5
      clear hcv hP2 hG2
      cases r
      · go_wp2
        go_roundg (256 - (j + 1))
        case measure => omega
        case rel => exact ⟨j + 1, by omega, rfl, by rw [S.out.1]; simp, by rw [S.out.2]; simp, by go_num, hP3, hG3⟩
      · by_cases h128 : j < 128
        · have b1 : decide ((j : Int) < 128) = true := decide_eq_true (by omega)
          go_wp2
          go_roundg (256 - (j + 1))
          case measure => omega
          case rel => exact ⟨j + 1, by omega, rfl, by rw [S.out.1]; simp [h128], by rw [S.out.2]; simp [h128], by go_num, hP3, hG3⟩
        · have b1 : decide ((j : Int) < 128) = false := decide_eq_false (by omega)
          go_wp2
          go_roundg (256 - (j + 1))
          case measure => omega
          case rel => exact ⟨j + 1, by omega, rfl, by rw [S.out.1]; simp [h128], by rw [S.out.2]; simp [h128], by go_num, hP3, hG3⟩
    · obtain rfl : j = 256 := by omega
      have n39 : nextB uni ((39 : Nat) : Int) = false := by cases uni <;> decide
      have n34 : nextB uni ((34 : Nat) : Int) = false := by cases uni <;> decide
      have n96 : nextB uni ((96 : Nat) : Int) = false := by cases uni <;> decide
      by_cases hc : c = 95
      · subst hc
        cases lf
        · rw [show asc (okB false 95) 256 = 125 by decide]
          cases uni
          · rw [show high (okB false 95) false 256 = 128 by decide]
            go_wp2_with fail
            refine (ends_in w.heap.size _ _ _ ⟨#[39]⟩ 0 39 _ hP2 (by decide) (by rfl)).mono ?_
            rintro e w' ⟨rfl, rfl⟩
            rw [n39, Bool.and_false]
            go_wp2_with fail
            refine (ends_in w.heap.size _ _ _ ⟨#[34]⟩ 0 34 _ hP2 (by decide) (by rfl)).mono ?_
            rintro e w' ⟨rfl, rfl⟩
            rw [n34, Bool.and_false]
            go_wp2_with fail
            refine (ends_in w.heap.size _ _ _ ⟨#[96]⟩ 0 96 _ hP2 (by decide) (by rfl)).mono ?_
            rintro e w' ⟨rfl, rfl⟩
            rw [n96, Bool.and_false]
            go_wp2
            go_ret
            exact ⟨rfl, hG2⟩
          · rw [show high (okB false 95) true 256 = 0 by decide]
            go_wp2_with fail
            refine (ends_in w.heap.size _ _ _ ⟨#[39]⟩ 0 39 _ hP2 (by decide) (by rfl)).mono ?_
            rintro e w' ⟨rfl, rfl⟩
            rw [n39, Bool.and_false]
            go_wp2_with fail
            refine (ends_in w.heap.size _ _ _ ⟨#[34]⟩ 0 34 _ hP2 (by decide) (by rfl)).mono ?_
            rintro e w' ⟨rfl, rfl⟩
            rw [n34, Bool.and_false]
            go_wp2_with fail
            refine (ends_in w.heap.size _ _ _ ⟨#[96]⟩ 0 96 _ hP2 (by decide) (by rfl)).mono ?_
            rintro e w' ⟨rfl, rfl⟩
            rw [n96, Bool.and_false]
            go_wp2
            go_ret
            exact ⟨rfl, hG2⟩
        · rw [show asc (okB true 95) 256 = 0 by decide, show high (okB true 95) uni 256 = 0 by cases uni <;> decide]
          go_wp2_with fail
          refine (ends_in w.heap.size _ _ _ ⟨#[39]⟩ 0 39 _ hP2 (by decide) (by rfl)).mono ?_
          rintro e w' ⟨rfl, rfl⟩
          rw [n39, Bool.and_false]
          go_wp2_with fail
          refine (ends_in w.heap.size _ _ _ ⟨#[34]⟩ 0 34 _ hP2 (by decide) (by rfl)).mono ?_
          rintro e w' ⟨rfl, rfl⟩
          rw [n34, Bool.and_false]
          go_wp2_with fail
          refine (ends_in w.heap.size _ _ _ ⟨#[96]⟩ 0 96 _ hP2 (by decide) (by rfl)).mono ?_
          rintro e w' ⟨rfl, rfl⟩
          rw [n96, Bool.and_false]
          go_wp2
          go_ret
          exact ⟨rfl, hG2⟩
      · have b1 : (c == 95) = false := beq_eq_false_iff_ne.2 hc
        have ho : okB lf c = true := by simp [okB, hc]
        rw [ho, show asc true 256 = 125 by decide]
        cases uni
        · rw [show high true false 256 = 128 by decide]
          clear ho
          go_wp2_with fail
          refine (ends_in w.heap.size _ _ _ ⟨#[39]⟩ 0 39 _ hP2 (by decide) (by rfl)).mono ?_
          rintro e w' ⟨rfl, rfl⟩
          rw [n39, Bool.and_false]
          go_wp2_with fail
          refine (ends_in w.heap.size _ _ _ ⟨#[34]⟩ 0 34 _ hP2 (by decide) (by rfl)).mono ?_
          rintro e w' ⟨rfl, rfl⟩
          rw [n34, Bool.and_false]
          go_wp2_with fail
          refine (ends_in w.heap.size _ _ _ ⟨#[96]⟩ 0 96 _ hP2 (by decide) (by rfl)).mono ?_
          rintro e w' ⟨rfl, rfl⟩
          rw [n96, Bool.and_false]
          go_wp2
          go_ret
          exact ⟨rfl, hG2⟩
        · rw [show high true true 256 = 0 by decide]
          clear ho
          go_wp2_with fail
          refine (ends_in w.heap.size _ _ _ ⟨#[39]⟩ 0 39 _ hP2 (by decide) (by rfl)).mono ?_
          rintro e w' ⟨rfl, rfl⟩
          rw [n39, Bool.and_false]
          go_wp2_with fail
          refine (ends_in w.heap.size _ _ _ ⟨#[34]⟩ 0 34 _ hP2 (by decide) (by rfl)).mono ?_
          rintro e w' ⟨rfl, rfl⟩
          rw [n34, Bool.and_false]
          go_wp2_with fail
          refine (ends_in w.heap.size _ _ _ ⟨#[96]⟩ 0 96 _ hP2 (by decide) (by rfl)).mono ?_
          rintro e w' ⟨rfl, rfl⟩
          rw [n96, Bool.and_false]
          go_wp2
          go_ret
          exact ⟨rfl, hG2⟩
end Go.Proofs.Qxb6613674a
