import Derived.Test.Qxb6613674aRows
import Derived.WalkKit
import Derived.WalkSpells
import Derived.WalkLawsBesides
import Derived.RowKit3
import Derived.OpenShut
import Derived.Outline
import Derived.Deep.LoopGhost
import Derived.LoopN
import Derived.Laws.IdiomStrings
import Derived.Laws.BitsAllLaws
namespace Go.Proofs.Qxb6613674a
open Go.RowKit

/-- The text of the one byte j. -/
def one (j : Nat) : ByteArray := ⟨#[UInt8.ofNat j]⟩

/-- 'string([]byte{byte(j)})', behind the block that the literal has laid. -/
theorem conv1 (wr : World) (j : Nat) (hj : j < 256) : (convert 28 9 (.slice (some ⟨wr.heap.size, 0, none⟩) 1 1)).run Try.prog (wr.alloc (.cells #[.int .u8 (j : Int)] 5)) =
    .ok (.string (one j)) (wr.alloc (.cells #[.int .u8 (j : Int)] 5)) := by
  refine run_convert_bytes_back (P := Try.prog) (wr.alloc (.cells #[.int .u8 (j : Int)] 5)) 28 9 5 ⟨wr.heap.size, 0, none⟩ 1 [UInt8.ofNat j] Try.underlying28 Try.underlying5 Try.underlying9 ?_
  intro i hi
  obtain rfl : i = 0 := by simpa using hi
  have e : (UInt8.ofNat j).toNat = j := by simp [UInt8.toNat_ofNat']; omega
  simp [Addr.add, e]

theorem one_size (j : Nat) : (one j).size = 1 := rfl
theorem one_get (j : Nat) (hj : j < 256) (h : 0 < (one j).size) : ((one j)[0]'h).toNat = j := by
  show (UInt8.ofNat j).toNat = j
  simp [UInt8.toNat_ofNat']; omega

/-- 'ZZmsqlLiteralPrefix' where q is no single quote, or the word is not one byte long. -/
theorem msql_no (s : ByteArray) (q : Int) (w : World) (h : (q == 39) = false ∨ ((s.size : Int) == 1) = false) :
    Calls Try.prog 11 #[.string s, .int .u8 q] w fun e w' => e = .returned (.bool false) ∧ w = w' := by
  by_cases h1 : q = 39
  · subst h1
    have h2 : ((s.size : Int) == 1) = false := by
      rcases h with h | h
      · simp at h
      · exact h
    clear h
    go_enter Try.func11, Try.ntmps11
    go_wp2
    go_ret
    exact ⟨rfl, rfl⟩
  · have h1' : (q == 39) = false := beq_eq_false_iff_ne.2 h1
    clear h h1
    go_enter Try.func11, Try.ntmps11
    go_wp2
    go_ret
    exact ⟨rfl, rfl⟩

theorem or32 : ∀ j : Nat, j < 256 → ((((j ||| 32 : Nat) : Int)) == 120) = decide (j = 88 ∨ j = 120) := by decide +kernel

/-- 'ZZmsqlLiteralPrefix' at a word of one byte, before a single quote. -/
theorem msql_one (j : Nat) (hj : j < 256) (w : World) :
    Calls Try.prog 11 #[.string (one j), .int .u8 39] w fun e w' => e = .returned (.bool (decide (j = 88 ∨ j = 120))) ∧ w = w' := by
  have hs := one_size j
  have hg := one_get j hj
  have e : (bits BinOp.or IntKind.u8 (j : Int) 32 == 120) = decide (j = 88 ∨ j = 120) := by
    rw [show (32 : Int) = ((32 : Nat) : Int) from rfl, u8_or_nat j 32 hj (by omega)]
    exact or32 j hj
  rw [← e]
  clear e
  go_enter Try.func11, Try.ntmps11
  go_wp2
  go_ret
  exact ⟨rfl, rfl⟩

set_option maxRecDepth 100000 in
theorem key88 (w : World) : Calls Try.prog 12 #[.string ⟨#[88]⟩] w fun e w' => e = .returned (.int .u64 120) ∧ w = w' := by
  go_enter Try.func12, Try.ntmps12
  go_wp2
  refine wp_loop_rounds 2 ?_
  rw [rounds_succ]
  go_wp2
  rw [rounds_succ]
  go_wp2
  go_ret
  exact ⟨rfl, rfl⟩
set_option maxRecDepth 100000 in
theorem key120 (w : World) : Calls Try.prog 12 #[.string ⟨#[120]⟩] w fun e w' => e = .returned (.int .u64 120) ∧ w = w' := by
  go_enter Try.func12, Try.ntmps12
  go_wp2
  refine wp_loop_rounds 2 ?_
  rw [rounds_succ]
  go_wp2
  rw [rounds_succ]
  go_wp2
  go_ret
  exact ⟨rfl, rfl⟩
end Go.Proofs.Qxb6613674a
