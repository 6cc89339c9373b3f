namespace Go.Proofs.Qxb6613590a

/-- What holds at the head of the loop that follows the list: 'N' the numbers of next, 'h' the head, 'on' the marks so far, 'last' and 'cur' the two variables. -/
structure Inv (h : Nat) (N : Nat → Int) (on : Nat → Bool) (last cur : Int) : Prop where
  start : last = h → cur = N h ∧ ∀ i, i < h → on i = false
  go : last ≠ h → 0 ≤ last ∧ last < h ∧ cur = N last.toNat ∧ 0 ≤ N h ∧ N h ≤ last ∧ on (N h).toNat = true ∧ ∀ i : Nat, (i : Int) < N h → on i = false
  links : ∀ i, i < h → on i = true → (i : Int) = last ∨ (0 ≤ N i ∧ N i ≤ h)

/-- What is known when the loop has come back to the head. -/
structure Done (h : Nat) (N : Nat → Int) (on : Nat → Bool) : Prop where
  lo : 0 ≤ N h
  hi : N h ≤ h
  below : ∀ i : Nat, (i : Int) < N h → on i = false
  least : N h < h → on (N h).toNat = true
  links : ∀ i, i < h → on i = true → 0 ≤ N i ∧ N i ≤ h

theorem Inv.first (h : Nat) (N : Nat → Int) : Inv h N (fun _ => false) h (N h) :=
  ⟨fun _ => ⟨rfl, fun _ _ => rfl⟩, fun g => absurd rfl g, fun _ _ e => by simp at e⟩

theorem Inv.step {h : Nat} {N : Nat → Int} {on : Nat → Bool} {last : Int} {c : Nat} (I : Inv h N on last c) (hc : c < h) (hlast : last = h ∨ last < (c : Int)) :
    Inv h N (fun i => if i = c then true else on i) c (N c) := by
  refine ⟨fun e => by omega, fun _ => ?_, fun i hi hon => ?_⟩
  · by_cases hl : last = h
    · obtain ⟨e, hf⟩ := I.start hl
      refine ⟨by omega, by omega, by simp, by omega, by omega, ?_, fun i hi => ?_⟩
      · rw [← e]; simp
      · have hic : i ≠ c := by omega
        simp only [if_neg hic]
        exact hf i (by omega)
    · obtain ⟨g1, g2, g3, g4, g5, g6, g7⟩ := I.go hl
      have hlc : last < (c : Int) := by omega
      refine ⟨by omega, by omega, by simp, g4, by omega, ?_, fun i hi => ?_⟩
      · have hne : (N h).toNat ≠ c := by omega
        simp only [if_neg hne]
        exact g6
      · have hic : i ≠ c := by omega
        simp only [if_neg hic]
        exact g7 i hi
  · by_cases e : i = c
    · exact .inl (by omega)
    · simp only [if_neg e] at hon
      by_cases hl : last = h
      · have := (I.start hl).2 i hi
        rw [this] at hon
        simp at hon
      · rcases I.links i hi hon with k | k
        · refine .inr ?_
          obtain ⟨g1, g2, g3, g4, g5, g6, g7⟩ := I.go hl
          have : last.toNat = i := by omega
          rw [this] at g3
          omega
        · exact .inr k

theorem Inv.done {h : Nat} {N : Nat → Int} {on : Nat → Bool} {last : Int} (I : Inv h N on last h) : Done h N on := by
  by_cases hl : last = h
  · obtain ⟨e, hf⟩ := I.start hl
    refine ⟨by omega, by omega, fun i hi => hf i (by omega), fun k => by omega, fun i hi hon => ?_⟩
    rw [hf i hi] at hon
    simp at hon
  · obtain ⟨g1, g2, g3, g4, g5, g6, g7⟩ := I.go hl
    refine ⟨g4, by omega, g7, fun _ => g6, fun i hi hon => ?_⟩
    rcases I.links i hi hon with k | k
    · have : last.toNat = i := by omega
      rw [this] at g3
      omega
    · exact k

/-- The measure of the loop. -/
def togo (h : Nat) (last : Int) : Nat := if last = h then h + 1 else h - last.toNat
theorem togo_step {h : Nat} {last : Int} {c : Nat} (hc : c < h) (hlast : last = h ∨ (0 ≤ last ∧ last < (c : Int))) : togo h c < togo h last := by
  unfold togo
  rw [if_neg (by omega)]
  split <;> omega

end Go.Proofs.Qxb6613590a
