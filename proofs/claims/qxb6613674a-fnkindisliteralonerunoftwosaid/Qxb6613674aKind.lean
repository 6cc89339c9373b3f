import Derived.Test.Qxb6613674aRows
import Derived.WalkKit
import Derived.WalkSpells
import Derived.WalkLawsBesides
import Derived.RowKit3
import Derived.OpenShut
import Derived.Outline
import Derived.Deep.LoopGhost
namespace Go.Proofs.Qxb6613674a
open Go.RowKit

/-- Is k String or Bytes? -/
def litB (k : Int) : Bool := decide (k = 8 ∨ k = 9)

/-- '(Kind).isLiteral', through its shim. -/
theorem lit16 (k : Int) (w : World) : Calls Try.prog 16 #[.int .u8 k] w fun e w' => e = .returned (.bool (litB k)) ∧ w = w' := by
  by_cases h8 : k = 8
  · subst h8
    have e : litB 8 = true := by decide
    rw [e]
    go_enter Try.func16, Try.ntmps16
    go_wp2
    go_ret
    exact ⟨rfl, rfl⟩
  by_cases h9 : k = 9
  · subst h9
    have e : litB 9 = true := by decide
    rw [e]
    go_enter Try.func16, Try.ntmps16
    go_wp2
    go_ret
    exact ⟨rfl, rfl⟩
  · have e : litB k = false := decide_eq_false (by omega)
    have b1 : (k == 8) = false := beq_eq_false_iff_ne.2 h8
    have b2 : (k == 9) = false := beq_eq_false_iff_ne.2 h9
    rw [e]
    clear e
    go_enter Try.func16, Try.ntmps16
    go_wp2
    go_ret
    exact ⟨rfl, rfl⟩

/-- 'FnKindIsLiteralOneRunOfTwo' answers true at every kind. -/
theorem run_walk (k : Int) (w0 : (Lit.int .u8 k).wf = true) (w : World) :
    Calls Try.prog 5 #[.int .u8 k] w fun e w' => e = .returned (.bool true) ∧ Grown w w' := by
  have hb := bounds_u8 w0
  by_cases h0 : k = 0
  · subst h0
    clear w0 hb
    go_enter Try.func5, Try.ntmps5
    go_wp2
    go_ret
    exact ⟨rfl, Grown.refl _⟩
  by_cases h7 : k = 7
  · subst h7
    clear w0 hb
    go_enter Try.func5, Try.ntmps5
    go_wp2
    go_ret
    exact ⟨rfl, Grown.refl _⟩
  by_cases h8 : k = 8
  · subst h8
    clear w0 hb
    go_enter Try.func5, Try.ntmps5
    go_wp2
    go_ret
    exact ⟨rfl, Grown.refl _⟩
  by_cases h9 : k = 9
  · subst h9
    clear w0 hb
    go_enter Try.func5, Try.ntmps5
    go_wp2
    go_ret
    exact ⟨rfl, Grown.refl _⟩
  by_cases h10 : k = 10
  · subst h10
    clear w0 hb
    go_enter Try.func5, Try.ntmps5
    go_wp2
    go_ret
    exact ⟨rfl, Grown.refl _⟩
  by_cases h255 : k = 255
  · subst h255
    clear w0 hb
    go_enter Try.func5, Try.ntmps5
    go_wp2
    go_ret
    exact ⟨rfl, Grown.refl _⟩
  have a1 : 1 ≤ k := by omega
  have a2 : k ≤ 254 := by omega
  have e0 : litB k = false := decide_eq_false (by omega)
  have e1 : litB (k + 1) = false := decide_eq_false (by omega)
  have e2 : litB (k - 1) = false := decide_eq_false (by omega)
  have b1 : (k == 8) = false := beq_eq_false_iff_ne.2 h8
  have b2 : (k == 9) = false := beq_eq_false_iff_ne.2 h9
  have E : Aside (litB k = false ∧ litB (k + 1) = false ∧ litB (k - 1) = false) := ⟨e0, e1, e2⟩
  clear w0 hb h0 h7 h8 h9 h10 h255 e0 e1 e2
  go_enter Try.func5, Try.ntmps5
  go_wp2_with fail
  refine (lit16 _ _).mono ?_
  rintro e w' ⟨rfl, rfl⟩
  rw [E.out.1]
  go_wp2_with fail
  refine (lit16 _ _).mono ?_
  rintro e w' ⟨rfl, rfl⟩
  rw [E.out.2.1]
  go_wp2_with fail
  refine (lit16 _ _).mono ?_
  rintro e w' ⟨rfl, rfl⟩
  rw [E.out.2.2]
  go_wp2
  go_ret
  exact ⟨rfl, Grown.refl _⟩
end Go.Proofs.Qxb6613674a
