import Derived.Test.Qxb6613590aRows
import Derived.WalkKit
import Derived.WalkSpells
import Derived.WalkLawsBesides
import Derived.ProofKit
import Derived.OpenShut
import Derived.Below
import Derived.Outline
import Derived.Deep.QuietTactic
import Derived.BigQuiet
import Derived.Deep.OwnRows
namespace Go.Proofs.Qxb6613590a
open Go.RowKit

/-- 'zzBytes_FnFirstIsTheLeastReadAndThePutBackOne' only computes. -/
theorem bytes14 (a0 : Option Addr) (l0 c0 : Nat) (a1 : Option Addr) (l1 c1 : Nat) (x : Int) (w : World) (h0 : l0 ≤ 9223372036854775807) (h1 : l1 ≤ 9223372036854775807) :
    Calls Try.prog 14 #[.slice a0 l0 c0, .slice a1 l1 c1, .int .i32 x] w fun e w' => e = .returned (.bool (decide (l0 + l1 ≤ 1048576))) ∧ w = w' := by
  by_cases g0 : (1048576 : Int) < (l0 : Int)
  · have d : decide (l0 + l1 ≤ 1048576) = false := decide_eq_false (by omega)
    rw [d]
    go_enter Try.func14, Try.ntmps14
    go_wp2
    go_ret
    exact ⟨rfl, rfl⟩
  · by_cases g1 : (1048576 : Int) < (l1 : Int)
    · have d : decide (l0 + l1 ≤ 1048576) = false := decide_eq_false (by omega)
      rw [d]
      go_enter Try.func14, Try.ntmps14
      go_wp2
      go_ret
      exact ⟨rfl, rfl⟩
    · by_cases g2 : (1048576 : Int) < (l0 : Int) + (l1 : Int)
      · have d : decide (l0 + l1 ≤ 1048576) = false := decide_eq_false (by omega)
        rw [d]
        go_enter Try.func14, Try.ntmps14
        go_wp2
        go_ret
        exact ⟨rfl, rfl⟩
      · have d : decide (l0 + l1 ≤ 1048576) = true := decide_eq_true (by omega)
        rw [d]
        go_enter Try.func14, Try.ntmps14
        go_wp2
        go_ret
        exact ⟨rfl, rfl⟩

/-- '(readList).first' at a list whose 'next' is a row of n+1 numbers: the head's number, and whether it is another than the head. -/
theorem first28 (b n c : Nat) (pv : Value) (v : Int) (w : World) (hn : n ≤ 65536) (hc : w.cell? ⟨b, n, none⟩ = some (.int .i32 v)) (hb : b < w.heap.size) :
    Calls Try.prog 28 #[.agg #[.slice (some ⟨b, 0, none⟩) (n + 1) c, pv]] w fun e w' => e = .returned (.tuple #[.int .i32 v, .bool (v != (n : Int))]) ∧ Below w.heap.size w w' := by
  have hc' : ∀ o, (w.alloc o).cell? ⟨b, n, none⟩ = some (.int .i32 v) := fun o => by rw [World.cell?_alloc_old _ _ _ (by show b ≠ w.heap.size; omega)]; exact hc
  go_enter Try.func28, Try.ntmps28
  go_wp2
  go_quiet (fail)
  go_wp2
  go_ret2
  refine ⟨rfl, ?_⟩
  exact below_drewN ((Below.refl _ _).alloc (Nat.le_refl _) _) _

/-- 'ZZreadListFirst'. -/
theorem first15 (b n c : Nat) (a1 : Option Addr) (l1 c1 : Nat) (v : Int) (w : World) (hn : n ≤ 65536) (hc : w.cell? ⟨b, n, none⟩ = some (.int .i32 v)) (hb : b < w.heap.size) :
    Calls Try.prog 15 #[.slice (some ⟨b, 0, none⟩) (n + 1) c, .slice a1 l1 c1] w fun e w' => e = .returned (.tuple #[.int .i32 v, .bool (v != (n : Int))]) ∧ Below w.heap.size w w' := by
  go_enter Try.func15, Try.ntmps15
  go_wp2_with (go_at_call 28; refine (first28 b n c _ v _ hn hc hb).mono ?_; rintro e w' ⟨rfl, hB⟩)
  go_ret2
  exact ⟨rfl, hB⟩
end Go.Proofs.Qxb6613590a
