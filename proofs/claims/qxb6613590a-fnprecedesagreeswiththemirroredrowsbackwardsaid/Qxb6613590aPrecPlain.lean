import Derived.Test.Qxb6613590aPrecCalls
import Derived.Laws.BitsAllLaws
namespace Go.Proofs.Qxb6613590a

/-- The word that holds column k alone, as the walk spells it. -/
def M (k : Nat) : Int := IntKind.u64.wrap (2 ^ (k % 64))

theorem M_nat (k : Nat) : M k = ((2 ^ (k % 64) : Nat) : Int) := by
  have h : 2 ^ (k % 64) < 2 ^ 64 := Nat.pow_lt_pow_right (by omega) (by omega)
  unfold M
  rw [IntKind.wrap_u64]
  have e : (2 : Int) ^ (k % 64) = ((2 ^ (k % 64) : Nat) : Int) := by simp
  rw [e]
  generalize 2 ^ (k % 64) = x at h
  omega

theorem pow_lt (k : Nat) : 2 ^ (k % 64) < 18446744073709551616 := by
  have h : 2 ^ (k % 64) < 2 ^ 64 := Nat.pow_lt_pow_right (by omega) (by omega)
  omega

theorem clear_bit (a i : Nat) (hi : i < 64) : (a &&& (18446744073709551615 - 2 ^ i)) &&& 2 ^ i = 0 := by
  apply Nat.eq_of_testBit_eq
  intro j
  have h : (2 : Nat) ^ i < 2 ^ 64 := Nat.pow_lt_pow_right (by omega) hi
  have e : 18446744073709551615 - 2 ^ i = 2 ^ 64 - (2 ^ i + 1) := by omega
  rw [e, Nat.testBit_and, Nat.testBit_and, Nat.testBit_two_pow_sub_succ h, Nat.testBit_two_pow]
  simp

theorem set_bit (a i : Nat) : (a ||| 2 ^ i) &&& 2 ^ i ≠ 0 := by
  intro h
  have h2 := congrArg (fun x => Nat.testBit x i) h
  simp [Nat.testBit_and, Nat.testBit_or] at h2

theorem hasB_nat (a k : Nat) (ha : a < 18446744073709551616) : hasB (a : Int) k = (a &&& 2 ^ (k % 64) != 0) := by
  unfold hasB
  have e := M_nat k
  unfold M at e
  rw [e, u64_and_nat a _ ha (pow_lt k)]
  by_cases h : a &&& 2 ^ (k % 64) = 0
  · simp [h]
  · have h' : ((a &&& 2 ^ (k % 64) : Nat) : Int) ≠ 0 := by omega
    rw [bne_iff_ne.2 h', bne_iff_ne.2 h]

/-- A word with column k cleared does not hold it. -/
theorem hasB_clear (z : Int) (k : Nat) (h0 : 0 ≤ z) (h1 : z < 18446744073709551616) : hasB (bits BinOp.andNot IntKind.u64 z (M k)) k = false := by
  obtain ⟨a, rfl⟩ := Int.eq_ofNat_of_zero_le h0
  have ha : a < 18446744073709551616 := by omega
  rw [M_nat, u64_andNot_nat a _ ha (pow_lt k), hasB_nat _ _ (Nat.lt_of_le_of_lt Nat.and_le_left ha), clear_bit a _ (Nat.mod_lt _ (by omega))]
  rfl

/-- A word in which column k is set holds it. -/
theorem hasB_set (z : Int) (k : Nat) (h0 : 0 ≤ z) (h1 : z < 18446744073709551616) : hasB (bits BinOp.or IntKind.u64 z (M k)) k = true := by
  obtain ⟨a, rfl⟩ := Int.eq_ofNat_of_zero_le h0
  have ha : a < 18446744073709551616 := by omega
  have hor : a ||| 2 ^ (k % 64) < 2 ^ 64 := Nat.or_lt_two_pow (by omega) (by have := pow_lt k; omega)
  rw [M_nat, u64_or_nat a _ ha (pow_lt k), hasB_nat _ _ (by omega)]
  exact bne_iff_ne.2 (set_bit a _)

theorem andNot_range (z : Int) (k : Nat) (h0 : 0 ≤ z) (h1 : z < 18446744073709551616) : 0 ≤ bits BinOp.andNot IntKind.u64 z (M k) ∧ bits BinOp.andNot IntKind.u64 z (M k) < 18446744073709551616 := by
  obtain ⟨a, rfl⟩ := Int.eq_ofNat_of_zero_le h0
  have ha : a < 18446744073709551616 := by omega
  rw [M_nat, u64_andNot_nat a _ ha (pow_lt k)]
  have := @Nat.and_le_left a (18446744073709551615 - 2 ^ (k % 64))
  omega

theorem hasB_clear_set (z : Int) (k : Nat) (h0 : 0 ≤ z) (h1 : z < 18446744073709551616) : hasB (bits BinOp.or IntKind.u64 (bits BinOp.andNot IntKind.u64 z (M k)) (M k)) k = true :=
  hasB_set _ _ (andNot_range z k h0 h1).1 (andNot_range z k h0 h1).2

/-- A row of words with one word turned. -/
def upd (D : Nat → Int) (m : Nat) (v : Int) : Nat → Int := fun i => if i = m then v else D i
theorem upd_same (D : Nat → Int) (m : Nat) (v : Int) : upd D m v m = v := by simp [upd]
theorem upd_upd (D : Nat → Int) (m : Nat) (v v' : Int) : upd (upd D m v) m v' = upd D m v' := by
  funext i
  by_cases e : i = m <;> simp [upd, e]
theorem upd_back (D : Nat → Int) (m : Nat) (v : Int) : upd (upd D m v) m (D m) = D := by
  funext i
  by_cases e : i = m <;> simp [upd, e]

/-- Does u's row of words hold v's column? -/
def part (W : Nat) (C D : Nat → Int) (u v : Nat) : Bool := decide (0 ≤ C v) && hasB (D (u * W + (C v).toNat / 64)) (C v).toNat
theorem preB_part (W : Nat) (C D A : Nat → Int) (u v : Nat) : preB W C D A u v = (part W C D u v || part W C A v u) := rfl

/-- The place di and the mask dm are those of the bit that is asked for, or nothing is asked. -/
structure Sel (n W : Nat) (C D : Nat → Int) (u v : Nat) (di : Nat) (dm : Int) : Prop where
  lt : di < n
  off : part W C (upd D di (bits BinOp.andNot IntKind.u64 (D di) dm)) u v = false
  on : part W C (upd D di (bits BinOp.or IntKind.u64 (bits BinOp.andNot IntKind.u64 (D di) dm) dm)) u v = decide (0 ≤ C v)

theorem Sel.idle {n W : Nat} {C D : Nat → Int} {u v : Nat} (hn : 0 < n) (hv : C v < 0) : Sel n W C D u v 0 0 := by
  have h : ¬ (0 ≤ C v) := by omega
  exact ⟨hn, by simp [part, h], by simp [part, h]⟩

theorem Sel.bit {n W : Nat} {C D : Nat → Int} {u v k : Nat} (hv : C v = (k : Int)) (hi : u * W + k / 64 < n) (hD : 0 ≤ D (u * W + k / 64) ∧ D (u * W + k / 64) < 18446744073709551616) : Sel n W C D u v (u * W + k / 64) (M k) := by
  refine ⟨hi, ?_, ?_⟩
  · simp [part, hv, upd_same, hasB_clear _ k hD.1 hD.2]
  · simp [part, hv, upd_same, hasB_clear_set _ k hD.1 hD.2]
end Go.Proofs.Qxb6613590a
