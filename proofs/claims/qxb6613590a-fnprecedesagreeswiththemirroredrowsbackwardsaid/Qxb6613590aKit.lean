import Derived.WalkKit
import Derived.WalkSpells
import Derived.WalkLawsBesides
import Derived.Below
import Derived.Laws.CopyOwn
import Derived.Deep.OwnRows
import Derived.Deep.LoopGhost
import Derived.Deep.QuietTactic
import Derived.BigQuiet
import Derived.Outline
namespace Go.Proofs.Qxb6613590a
open Go.RowKit

/-- 'copy(dst, src)', dst a whole row of n cells that the call made, src n integers: the row holds them behind it, every other block stands. -/
theorem wpList_copy_ints {P : Program} {w : World} {ops : Array Oper} {rest : List Oper} {o : Oper} {a : Act} {Q : Exit → Act → World → Prop} (hgd : o.guard = none) (d s : Operand) (dT sT : TypeId)
    (ho : o.op = .call { callee := .builtin .copy, args := #[d, s], argTypes := #[dT, sT] }) (elem : TypeId) (hu : P.underlying dT = some (.slice elem)) (hsz : (P.info? elem).map (·.size) = some 1)
    (g n dCap sCap : Nat) (ad : Addr) (hd : a.eval d = .slice (some ⟨g, 0, none⟩) n dCap) (hs : a.eval s = .slice (some ad) n sCap)
    (k : IntKind) (t : TypeId) (f0 : Nat → Value) (hrow : w.rowIs g t n f0) (F : Nat → Int) (hsrc : ∀ j, j < n → w.cell? (ad.add j) = some (.int k (F j)))
    (h : ∀ w', w'.rowIs g t n (fun i => .int k (F i)) → Below g w w' → wpList P ops Q rest (a.put o.dst (goInt n)) w') :
    wpList P ops Q (o :: rest) a w := by
  obtain ⟨cur, hg, hcs, _⟩ := hrow
  have hlen : ((List.range n).map (fun i => Value.int k (F i))).length = n := by simp
  have hat : ∀ (j : Nat) (v : Value), ((List.range n).map (fun i => Value.int k (F i)))[j]? = some v → j < n ∧ v = .int k (F j) := by
    intro j v hv
    rw [List.getElem?_map] at hv
    by_cases hj : j < n
    · simp [hj] at hv
      exact ⟨hj, hv.symm⟩
    · simp [hj] at hv
  refine wpList_copy_own hgd d s dT sT ho elem hu hsz g 0 n dCap ad n sCap hd hs cur t hg ((List.range n).map (fun i => Value.int k (F i))) (by simp) ?_ (by simp [hcs]) ?_ ?_
  · intro j v hv
    obtain ⟨hj, rfl⟩ := hat j v hv
    exact hsrc j hj
  · intro v hv
    simp at hv
    obtain ⟨i, _, rfl⟩ := hv
    rfl
  · rw [hlen]
    refine h _ ⟨_, setRow_heap w g _ _ t _ hg, by simp [hcs], fun i hi => ?_⟩ (below_setRow (Below.refl _ _) (Nat.le_refl _) _)
    simp only [List.take_zero, List.nil_append, List.getElem?_toArray]
    rw [List.getElem?_append_left (by simpa using hi)]
    simp [hi]

/-- A cell of an old block, in a world that is as the old one below the new blocks. -/
theorem row_later {w w' : World} {B b : Nat} {t : TypeId} {n : Nat} {f : Nat → Value} (h : w.rowIs b t n f) (hB : Below B w w') (hb : b < B) : w'.rowIs b t n f :=
  h.of_block (hB.block b hb)
end Go.Proofs.Qxb6613590a
