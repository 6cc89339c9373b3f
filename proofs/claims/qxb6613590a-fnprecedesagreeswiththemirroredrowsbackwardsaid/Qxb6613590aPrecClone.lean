import Derived.Test.Qxb6613590aRows
import Derived.Test.Qxb6613590aKit
namespace Go.Proofs.Qxb6613590a
open Go.RowKit

theorem Try.info34 : (Try.prog.info? 34).map (fun i => (i.zero, i.size, i.bytes)) = some (some (.int .u64 0), 1, 8) := by kernel_rfl

/-- 'zzBytes_FnPrecedesIsTheOrOfTheTwoBitsItAsks' only computes. -/
theorem bytes16 (a0 : Option Addr) (l0 c0 : Nat) (x : Int) (a1 : Option Addr) (l1 c1 : Nat) (a2 : Option Addr) (l2 c2 : Nat) (u v : Int) (w : World) (h0 : l0 ≤ 9223372036854775807) (h1 : l1 ≤ 9223372036854775807) (h2 : l2 ≤ 9223372036854775807) :
    Calls Try.prog 16 #[.slice a0 l0 c0, .int .i64 x, .slice a1 l1 c1, .slice a2 l2 c2, .int .i32 u, .int .i32 v] w fun e w' => e = .returned (.bool (decide (l0 + l1 + l2 ≤ 1048576))) ∧ w = w' := by
  by_cases g0 : (1048576 : Int) < (l0 : Int)
  · have d : decide (l0 + l1 + l2 ≤ 1048576) = false := decide_eq_false (by omega)
    rw [d]
    go_enter Try.func16, Try.ntmps16
    go_wp2
    go_ret
    exact ⟨rfl, rfl⟩
  by_cases g1 : (1048576 : Int) < (l1 : Int)
  · have d : decide (l0 + l1 + l2 ≤ 1048576) = false := decide_eq_false (by omega)
    rw [d]
    go_enter Try.func16, Try.ntmps16
    go_wp2
    go_ret
    exact ⟨rfl, rfl⟩
  by_cases g2 : (1048576 : Int) < (l0 : Int) + (l1 : Int)
  · have d : decide (l0 + l1 + l2 ≤ 1048576) = false := decide_eq_false (by omega)
    rw [d]
    go_enter Try.func16, Try.ntmps16
    go_wp2
    go_ret
    exact ⟨rfl, rfl⟩
  by_cases g3 : (1048576 : Int) < (l2 : Int)
  · have d : decide (l0 + l1 + l2 ≤ 1048576) = false := decide_eq_false (by omega)
    rw [d]
    go_enter Try.func16, Try.ntmps16
    go_wp2
    go_ret
    exact ⟨rfl, rfl⟩
  by_cases g4 : (1048576 : Int) < (l0 : Int) + (l1 : Int) + (l2 : Int)
  · have d : decide (l0 + l1 + l2 ≤ 1048576) = false := decide_eq_false (by omega)
    rw [d]
    go_enter Try.func16, Try.ntmps16
    go_wp2
    go_ret
    exact ⟨rfl, rfl⟩
  · have d : decide (l0 + l1 + l2 ≤ 1048576) = true := decide_eq_true (by omega)
    rw [d]
    go_enter Try.func16, Try.ntmps16
    go_wp2
    go_ret
    exact ⟨rfl, rfl⟩

/-- 'zzBytes_FnPrecedesAgreesWithTheMirroredRowsBackward' only computes. -/
theorem bytes20 (a0 : Option Addr) (l0 c0 : Nat) (x : Int) (a1 : Option Addr) (l1 c1 : Nat) (a2 : Option Addr) (l2 c2 : Nat) (u v : Int) (w : World) (h0 : l0 ≤ 9223372036854775807) (h1 : l1 ≤ 9223372036854775807) (h2 : l2 ≤ 9223372036854775807) :
    Calls Try.prog 20 #[.slice a0 l0 c0, .int .i64 x, .slice a1 l1 c1, .slice a2 l2 c2, .int .i32 u, .int .i32 v] w fun e w' => e = .returned (.bool (decide (l0 + l1 + l2 ≤ 1048576))) ∧ w = w' := by
  by_cases g0 : (1048576 : Int) < (l0 : Int)
  · have d : decide (l0 + l1 + l2 ≤ 1048576) = false := decide_eq_false (by omega)
    rw [d]
    go_enter Try.func20, Try.ntmps20
    go_wp2
    go_ret
    exact ⟨rfl, rfl⟩
  by_cases g1 : (1048576 : Int) < (l1 : Int)
  · have d : decide (l0 + l1 + l2 ≤ 1048576) = false := decide_eq_false (by omega)
    rw [d]
    go_enter Try.func20, Try.ntmps20
    go_wp2
    go_ret
    exact ⟨rfl, rfl⟩
  by_cases g2 : (1048576 : Int) < (l0 : Int) + (l1 : Int)
  · have d : decide (l0 + l1 + l2 ≤ 1048576) = false := decide_eq_false (by omega)
    rw [d]
    go_enter Try.func20, Try.ntmps20
    go_wp2
    go_ret
    exact ⟨rfl, rfl⟩
  by_cases g3 : (1048576 : Int) < (l2 : Int)
  · have d : decide (l0 + l1 + l2 ≤ 1048576) = false := decide_eq_false (by omega)
    rw [d]
    go_enter Try.func20, Try.ntmps20
    go_wp2
    go_ret
    exact ⟨rfl, rfl⟩
  by_cases g4 : (1048576 : Int) < (l0 : Int) + (l1 : Int) + (l2 : Int)
  · have d : decide (l0 + l1 + l2 ≤ 1048576) = false := decide_eq_false (by omega)
    rw [d]
    go_enter Try.func20, Try.ntmps20
    go_wp2
    go_ret
    exact ⟨rfl, rfl⟩
  · have d : decide (l0 + l1 + l2 ≤ 1048576) = true := decide_eq_true (by omega)
    rw [d]
    go_enter Try.func20, Try.ntmps20
    go_wp2
    go_ret
    exact ⟨rfl, rfl⟩

set_option maxRecDepth 100000 in
/-- 'zzClone64' of a slice that is not nil: a row of the call's own that holds the same words. -/
theorem clone18 (x : Addr) (n c : Nat) (D : Nat → Int) (w : World) (hn : (n : Int) ≤ 32768) (hc : ∀ i, i < n → w.cell? (x.add i) = some (.int .u64 (D i))) :
    Calls Try.prog 18 #[.slice (some x) n c] w fun e w' => e = .returned (.slice (some ⟨w.heap.size, 0, none⟩) n n) ∧ w'.rowIs w.heap.size 34 n (fun i => .int .u64 (D i)) ∧ Below w.heap.size w w' := by
  have hmk := run_make_row' (P := Try.prog) 31 34 (.int .u64 0) 8 Try.underlying31 Try.info34 rfl .i64 .i64 n (by omega) (by omega)
  have heq := fun (w : World) => Lib.run_eql_slice_nil (P := Try.prog) w 31 34 (some x) n c 0 0 Try.underlying31
  have H0 : Aside (∀ W, Below w.heap.size w W → ∀ i, i < n → W.cell? (x.add i) = some (.int .u64 (D i))) := fun W hB i hi => by
    rw [hB.cell (p := x.add i) (World.block_lt_of_cell? _ _ (hc i hi))]; exact hc i hi
  clear hc
  go_enter Try.func18, Try.ntmps18
  go_wp2
  have r0 := World.rowIs_made w (.int .u64 0) n 34
  clear hmk heq
  go_loopg [4] n (fun g s4 wr => ∃ k : Nat, k ≤ n ∧ g = n - k ∧ s4 = .int .i64 k ∧ wr.rowIs w.heap.size 34 n (fun i => .int .u64 (if i < k then D i else 0)) ∧ Below w.heap.size w wr)
  case atStart => exact ⟨0, Nat.zero_le _, rfl, rfl, r0.congr (fun i _ => by simp), (Below.refl _ _).alloc (Nat.le_refl _) _⟩
  case round =>
    obtain ⟨k, hk, rfl, rfl, hr, hB⟩ := hrel
    clear r0
    by_cases hkn : k < n
    · have t1 := H0.out wr hB k hkn
      have t2 : wr.cell? ⟨w.heap.size, k, none⟩ = some (.int .u64 0) := by simpa using hr.cell hkn
      have t3 : wr.frozen? ⟨w.heap.size, k, none⟩ = false := hr.frozen k
      go_wp2
      go_roundg (n - (k + 1))
      case measure => omega
      case rel =>
        refine ⟨k + 1, hkn, rfl, by go_num, (hr.set k _).congr (fun i _ => ?_), hB.setCell (Nat.le_refl _) _⟩
        by_cases e : i = k
        · subst e; simp
        · by_cases e2 : i < k
          · simp [e, e2, Nat.lt_succ_of_lt e2]
          · have e3 : ¬ i < k + 1 := by omega
            simp [e, e2, e3]
    · obtain rfl : k = n := by omega
      go_wp2
      go_ret
      exact ⟨rfl, hr.congr (fun i hi => by simp [hi]), hB⟩
end Go.Proofs.Qxb6613590a
