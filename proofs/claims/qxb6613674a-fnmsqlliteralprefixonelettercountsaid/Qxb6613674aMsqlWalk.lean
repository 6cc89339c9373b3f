import Derived.Test.Qxb6613674aMsql
import Derived.Deep.RegionWith
import Derived.Deep.RegionHeld3
namespace Go.Proofs.Qxb6613674a
open Go.RowKit

theorem two_size (j : Nat) : (one j ++ one j).size = 2 := by rw [ByteArray.size_append]; rfl

set_option maxHeartbeats 400000 in
set_option maxRecDepth 100000 in
theorem msql_other (q : Int) (hq : ¬ q = 39) (w : World) :
    Calls Try.prog 4 #[.int .u8 q] w fun e w' => e = .returned (.bool true) ∧ Grown w w' := by
  have hb : (q == 39) = false := beq_eq_false_iff_ne.2 hq
  clear hq
  go_enter Try.func4, Try.ntmps4
  go_wp2
  go_loopg [3, 4, 5, 6] 256 (fun g s3 s4 s5 s6 wr => ∃ j : Nat, j ≤ 256 ∧ g = 256 - j ∧ s3 = .int .i64 0 ∧ s4 = .int .i64 (-1) ∧ s5 = .int .i64 (-1) ∧ s6 = .int .i64 (j : Int) ∧ Grown w wr)
  case atStart => exact ⟨0, Nat.zero_le _, rfl, rfl, rfl, rfl, rfl, Grown.refl _⟩
  case round =>
    obtain ⟨j, hj, rfl, rfl, rfl, rfl, rfl, hg⟩ := hrel
    by_cases hlt : j < 256
    · have hcv := conv1 wr j hlt
      have h2 := two_size j
      go_wp2_with fail
      refine (msql_no _ _ _ (.inl hb)).mono ?_
      rintro e w' ⟨rfl, rfl⟩
      go_wp2_with fail
      refine (msql_no _ _ _ (.inl hb)).mono ?_
      rintro e w' ⟨rfl, rfl⟩
      go_wp2
      go_roundg (256 - (j + 1))
      case measure => omega
      case rel => exact ⟨j + 1, by omega, rfl, rfl, rfl, rfl, by go_num, hg.alloc _ _⟩
    · go_wp2_with fail
      refine (msql_no _ _ _ (.inl hb)).mono ?_
      rintro e w' ⟨rfl, rfl⟩
      go_wp2
      go_ret
      exact ⟨rfl, hg⟩

/-- What the loop has counted below j, before a single quote: how many words, the first and the second. -/
def cnt (j : Nat) : Int := if j ≤ 88 then 0 else if j ≤ 120 then 1 else 2
def fst1 (j : Nat) : Int := if j ≤ 88 then -1 else 88
def snd1 (j : Nat) : Int := if j ≤ 120 then -1 else 120
theorem cnt_same {j : Nat} (h : ¬ (j = 88 ∨ j = 120)) : cnt (j + 1) = cnt j ∧ fst1 (j + 1) = fst1 j ∧ snd1 (j + 1) = snd1 j := by
  unfold cnt fst1 snd1
  by_cases h1 : j ≤ 88
  · rw [if_pos h1, if_pos (show j + 1 ≤ 88 by omega), if_pos h1, if_pos (show j + 1 ≤ 88 by omega), if_pos (show j ≤ 120 by omega), if_pos (show j + 1 ≤ 120 by omega)]
    exact ⟨rfl, rfl, rfl⟩
  · by_cases h2 : j ≤ 120
    · rw [if_neg h1, if_pos h2, if_neg (show ¬ j + 1 ≤ 88 by omega), if_pos (show j + 1 ≤ 120 by omega), if_neg h1, if_neg (show ¬ j + 1 ≤ 88 by omega), if_pos h2, if_pos (show j + 1 ≤ 120 by omega)]
      exact ⟨rfl, rfl, rfl⟩
    · rw [if_neg h1, if_neg h2, if_neg (show ¬ j + 1 ≤ 88 by omega), if_neg (show ¬ j + 1 ≤ 120 by omega), if_neg h1, if_neg (show ¬ j + 1 ≤ 88 by omega), if_neg h2, if_neg (show ¬ j + 1 ≤ 120 by omega)]
      exact ⟨rfl, rfl, rfl⟩

theorem conv_at (j : Nat) (hj : j < 256) (wx : World) (g : Nat) (h : wx.cell? ⟨g, 0, none⟩ = some (.int .u8 (j : Int))) : (convert 28 9 (.slice (some ⟨g, 0, none⟩) 1 1)).run Try.prog wx = .ok (.string (one j)) wx := by
  refine run_convert_bytes_back (P := Try.prog) wx 28 9 5 ⟨g, 0, none⟩ 1 [UInt8.ofNat j] Try.underlying28 Try.underlying5 Try.underlying9 ?_
  intro i hi
  obtain rfl : i = 0 := by simpa using hi
  have e : (UInt8.ofNat j).toNat = j := by simp [UInt8.toNat_ofNat']; omega
  simp [Addr.add, e, h]

/-- 'ZZwordKey' of the one-byte words X and x. -/
theorem key1 (j : Nat) (hj : j = 88 ∨ j = 120) (w : World) : Calls Try.prog 12 #[.string (one j)] w fun e w' => e = .returned (.int .u64 120) ∧ w = w' := by
  rcases hj with rfl | rfl
  · rw [show one 88 = ⟨#[88]⟩ from rfl]; exact key88 w
  · rw [show one 120 = ⟨#[120]⟩ from rfl]; exact key120 w

/-- What is held may be changed on the way. -/
theorem held_with {P : Program} {md : Region.Mode} {ops : Array Oper} {Q : Exit → Act → World → Prop} {S S' : World → Prop} (h : ∀ w, S' w → S w) :
    ∀ {fuel : Nat} {listed : Array Bool} {a : Act} {w : World}, wpAnyH P md ops Q S' fuel listed a w → wpAnyH P md ops Q S fuel listed a w
  | 0, _, _, _, k => k
  | _ + 1, _, _, _, k => ⟨k.1, fun i hi => wpOp_mono (fun _ w' h' => ⟨h w' h'.1, held_with h h'.2⟩) (k.2 i hi)⟩

set_option linter.unusedSimpArgs false in
set_option linter.unusedVariables false in
set_option maxHeartbeats 1600000 in
set_option maxRecDepth 100000 in
theorem msql_quote (w : World) : Calls Try.prog 4 #[.int .u8 39] w fun e w' => e = .returned (.bool true) ∧ Grown w w' := by
  go_enter Try.func4, Try.ntmps4
  go_wp2
  go_loopg [3, 4, 5, 6] 256 (fun g s3 s4 s5 s6 wr => ∃ j : Nat, j ≤ 256 ∧ g = 256 - j ∧ s3 = .int .i64 (cnt j) ∧ s4 = .int .i64 (fst1 j) ∧ s5 = .int .i64 (snd1 j) ∧ s6 = .int .i64 (j : Int) ∧ Grown w wr)
  case atStart => exact ⟨0, Nat.zero_le _, rfl, rfl, rfl, rfl, rfl, Grown.refl _⟩
  case round =>
    obtain ⟨j, hj, rfl, rfl, rfl, rfl, rfl, hg⟩ := hrel
    by_cases hlt : j < 256
    · by_cases h88 : j = 88
      · subst h88
        have e1 : cnt 88 = 0 := by decide
        have e2 : fst1 88 = -1 := by decide
        have e3 : snd1 88 = -1 := by decide
        rw [e1, e2, e3]
        clear e1 e2 e3
        have hcv := conv1 wr 88 hlt
        rw [show ((88 : Nat) : Int) = 88 from rfl] at hcv
        have h2 := two_size 88
        go_wp2_with fail
        refine (msql_one 88 hlt _).mono ?_
        rintro e w' ⟨rfl, rfl⟩
        go_wp2_with fail
        refine (msql_no _ _ _ (.inr (by rw [h2]; rfl))).mono ?_
        rintro e w' ⟨rfl, rfl⟩
        go_wp2
        go_roundg (256 - 89)
        case measure => omega
        case rel => exact ⟨89, by omega, rfl, congrArg (Value.int .i64) (by decide), congrArg (Value.int .i64) (by decide), congrArg (Value.int .i64) (by decide), by rfl, hg.alloc _ _⟩
      by_cases h120 : j = 120
      · subst h120
        have e1 : cnt 120 = 1 := by decide
        have e2 : fst1 120 = 88 := by decide
        have e3 : snd1 120 = -1 := by decide
        rw [e1, e2, e3]
        clear e1 e2 e3
        have hcv := conv1 wr 120 hlt
        rw [show ((120 : Nat) : Int) = 120 from rfl] at hcv
        have h2 := two_size 120
        go_wp2_with fail
        refine (msql_one 120 hlt _).mono ?_
        rintro e w' ⟨rfl, rfl⟩
        go_wp2_with fail
        refine (msql_no _ _ _ (.inr (by rw [h2]; rfl))).mono ?_
        rintro e w' ⟨rfl, rfl⟩
        go_wp2
        go_roundg (256 - 121)
        case measure => omega
        case rel => exact ⟨121, by omega, rfl, congrArg (Value.int .i64) (by decide), congrArg (Value.int .i64) (by decide), congrArg (Value.int .i64) (by decide), by rfl, hg.alloc _ _⟩
      · have hcv := conv1 wr j hlt
        have h2 := two_size j
        have hd : decide (j = 88 ∨ j = 120) = false := decide_eq_false (by omega)
        obtain ⟨s1, s2, s3⟩ := cnt_same (j := j) (by omega)
        have S : Aside (cnt (j + 1) = cnt j ∧ fst1 (j + 1) = fst1 j ∧ snd1 (j + 1) = snd1 j) := ⟨s1, s2, s3⟩
        clear s1 s2 s3
        go_wp2_with fail
        refine (msql_one j hlt _).mono ?_
        rintro e w' ⟨rfl, rfl⟩
        rw [hd]
        clear hd
        go_wp2_with fail
        refine (msql_no _ _ _ (.inr (by rw [h2]; rfl))).mono ?_
        rintro e w' ⟨rfl, rfl⟩
        go_wp2
        go_roundg (256 - (j + 1))
        case measure => omega
        case rel => exact ⟨j + 1, by omega, rfl, by rw [S.out.1], by rw [S.out.2.1], by rw [S.out.2.2], by go_num, hg.alloc _ _⟩
    · obtain rfl : j = 256 := by omega
      have e1 : cnt 256 = 2 := by decide
      have e2 : fst1 256 = 88 := by decide
      have e3 : snd1 256 = 120 := by decide
      rw [e1, e2, e3]
      clear e1 e2 e3
      go_wp2_with fail
      refine (msql_no _ _ _ (.inr (by rfl))).mono ?_
      rintro e w' ⟨rfl, rfl⟩
      have hA := conv_at 88 (by omega)
      have hB := conv_at 120 (by omega)
      rw [show ((88 : Nat) : Int) = 88 from rfl] at hA
      rw [show ((120 : Nat) : Int) = 120 from rfl] at hB
      have hx : bits BinOp.xor IntKind.i64 88 120 = 32 := by decide
      have hw1 : IntKind.u8.wrap 88 = 88 := by decide
      have hw2 : IntKind.u8.wrap 120 = 120 := by decide
      go_wp2_with fail
      refine wp_region_held_drew (S := fun _ => True) (by kernel_rfl) trivial (fun _ => ?_)
      refine wpAnyH_take (i := 0) (v := .int .i64 88) rfl (by kernel_rfl) (by kernel_rfl) (by kernel_rfl) (fun _ _ _ h => h) (Or.inl ⟨by rfl, ?_⟩) trivial ?_
      · intro w9 hSw
        (try dsimp only at hSw)
        go_simp
      simp only [List.getElem_toArray, List.getElem_cons_succ, List.getElem_cons_zero, Act.put, List.setIfInBounds_toArray, List.set_cons_zero, List.set_cons_succ]
      refine wpAnyH_take (i := 1) (v := .int .i64 120) rfl (by kernel_rfl) (by kernel_rfl) (by kernel_rfl) (fun _ _ _ h => h) (Or.inl ⟨by rfl, ?_⟩) trivial ?_
      · intro w9 hSw
        (try dsimp only at hSw)
        go_simp
      simp only [List.getElem_toArray, List.getElem_cons_succ, List.getElem_cons_zero, Act.put, List.setIfInBounds_toArray, List.set_cons_zero, List.set_cons_succ]
      refine wpAnyH_take (i := 2) (v := .int .i64 32) rfl (by kernel_rfl) (by kernel_rfl) (by kernel_rfl) (fun _ _ _ h => h) (Or.inl ⟨by rfl, ?_⟩) trivial ?_
      · intro w9 hSw
        (try dsimp only at hSw)
        go_simp
      simp only [List.getElem_toArray, List.getElem_cons_succ, List.getElem_cons_zero, Act.put, List.setIfInBounds_toArray, List.set_cons_zero, List.set_cons_succ]
      refine wpAnyH_take (i := 3) (v := .bool true) rfl (by kernel_rfl) (by kernel_rfl) (by kernel_rfl) (fun _ _ _ h => h) (Or.inl ⟨by rfl, ?_⟩) trivial ?_
      · intro w9 hSw
        (try dsimp only at hSw)
        go_simp
      simp only [List.getElem_toArray, List.getElem_cons_succ, List.getElem_cons_zero, Act.put, List.setIfInBounds_toArray, List.set_cons_zero, List.set_cons_succ]
      refine wpAnyH_take (i := 4) (v := .bool true) rfl (by kernel_rfl) (by kernel_rfl) (by kernel_rfl) (fun _ _ _ h => h) (Or.inl ⟨by rfl, ?_⟩) trivial ?_
      · intro w9 hSw
        (try dsimp only at hSw)
        go_simp
      simp only [List.getElem_toArray, List.getElem_cons_succ, List.getElem_cons_zero, Act.put, List.setIfInBounds_toArray, List.set_cons_zero, List.set_cons_succ]
      refine wpAnyH_take (i := 5) (v := .int .i64 88) rfl (by kernel_rfl) (by kernel_rfl) (by kernel_rfl) (fun _ _ _ h => h) (Or.inl ⟨by rfl, ?_⟩) trivial ?_
      · intro w9 hSw
        (try dsimp only at hSw)
        go_simp
      simp only [List.getElem_toArray, List.getElem_cons_succ, List.getElem_cons_zero, Act.put, List.setIfInBounds_toArray, List.set_cons_zero, List.set_cons_succ]
      refine wpAnyH_take (i := 6) (v := .int .u8 88) rfl (by kernel_rfl) (by kernel_rfl) (by kernel_rfl) (fun _ _ _ h => h) (Or.inl ⟨by rfl, ?_⟩) trivial ?_
      · intro w9 hSw
        (try dsimp only at hSw)
        go_simp
      simp only [List.getElem_toArray, List.getElem_cons_succ, List.getElem_cons_zero, Act.put, List.setIfInBounds_toArray, List.set_cons_zero, List.set_cons_succ]
      refine wpAnyH_take (i := 10) (v := .int .i64 120) rfl (by kernel_rfl) (by kernel_rfl) (by kernel_rfl) (fun _ _ _ h => h) (Or.inl ⟨by rfl, ?_⟩) trivial ?_
      · intro w9 hSw
        (try dsimp only at hSw)
        go_simp
      simp only [List.getElem_toArray, List.getElem_cons_succ, List.getElem_cons_zero, Act.put, List.setIfInBounds_toArray, List.set_cons_zero, List.set_cons_succ]
      refine wpAnyH_take (i := 11) (v := .int .u8 120) rfl (by kernel_rfl) (by kernel_rfl) (by kernel_rfl) (fun _ _ _ h => h) (Or.inl ⟨by rfl, ?_⟩) trivial ?_
      · intro w9 hSw
        (try dsimp only at hSw)
        go_simp
      simp only [List.getElem_toArray, List.getElem_cons_succ, List.getElem_cons_zero, Act.put, List.setIfInBounds_toArray, List.set_cons_zero, List.set_cons_succ]
      refine wpAnyH_ready (rs := [7, 12]) (by kernel_rfl) (by simp) ?_
      refine AllReadyH.cons rfl (fun K hK => ?_) (AllReadyH.cons rfl (fun K hK => ?_) AllReadyH.nil)
      · -- the first literal first
        simp only [List.getElem_toArray, List.getElem_cons_succ, List.getElem_cons_zero]
        go_simp
        refine hK.out _ _ trivial (fun _ => ?_)
        clear hK K
        refine held_with (S' := fun w' => w'.cell? ⟨wr.heap.size, 0, none⟩ = some (.int .u8 88)) (fun _ _ => trivial) ?_
        refine wpAnyH_take (i := 8) (v := (.string (one 88))) rfl (by kernel_rfl) (by kernel_rfl) (by kernel_rfl) (fun _ _ _ h => h) (Or.inl ⟨by rfl, ?_⟩) (by simp [go_sem]) ?_
        · intro w9 hSw
          (try dsimp only at hSw)
          skip
          go_simp
        simp only [List.getElem_toArray, List.getElem_cons_succ, List.getElem_cons_zero, Act.put, List.setIfInBounds_toArray, List.set_cons_zero, List.set_cons_succ]
        refine wpAnyH_ready (rs := [9, 12]) (by kernel_rfl) (by simp) ?_
        refine AllReadyH.cons rfl (fun K hK => ?_) (AllReadyH.cons rfl (fun K hK => ?_) AllReadyH.nil)
        · -- its call
          simp only [List.getElem_toArray, List.getElem_cons_succ, List.getElem_cons_zero]
          go_simp
          refine (key1 88 (.inl rfl) _).mono ?_
          rintro e w' ⟨rfl, rfl⟩
          try go_wp2_with fail
          refine hK.out _ _ (by simp [go_sem]) (fun _ => ?_)
          clear hK K
          refine wpAnyH_ready (rs := [12]) (by kernel_rfl) (by simp) ?_
          refine AllReadyH.cons rfl (fun K hK => ?_) AllReadyH.nil
          simp only [List.getElem_toArray, List.getElem_cons_succ, List.getElem_cons_zero]
          go_simp
          refine hK.out _ _ (by simp [go_sem]) (fun _ => ?_)
          clear hK K
          refine held_with (S' := fun w' => w'.cell? ⟨wr.heap.size, 0, none⟩ = some (.int .u8 88) ∧ w'.cell? ⟨wr.heap.size + 1, 0, none⟩ = some (.int .u8 120)) (fun _ h => h.1) ?_
          refine wpAnyH_take (i := 13) (v := (.string (one 120))) rfl (by kernel_rfl) (by kernel_rfl) (by kernel_rfl) (fun _ _ _ h => h) (Or.inl ⟨by rfl, ?_⟩) (by simp [go_sem]) ?_
          · intro w9 hSw
            (try dsimp only at hSw)
            obtain ⟨h1, h2⟩ := hSw
            go_simp
          simp only [List.getElem_toArray, List.getElem_cons_succ, List.getElem_cons_zero, Act.put, List.setIfInBounds_toArray, List.set_cons_zero, List.set_cons_succ]
          refine wpAnyH_ready (rs := [14]) (by kernel_rfl) (by simp) ?_
          refine AllReadyH.cons rfl (fun K hK => ?_) AllReadyH.nil
          simp only [List.getElem_toArray, List.getElem_cons_succ, List.getElem_cons_zero]
          go_simp
          refine (key1 120 (.inr rfl) _).mono ?_
          rintro e w' ⟨rfl, rfl⟩
          try go_wp2_with fail
          refine hK.out _ _ (by simp [go_sem]) (fun _ => ?_)
          clear hK K
          refine wpAnyH_take (i := 15) (v := (.bool true)) rfl (by kernel_rfl) (by kernel_rfl) (by kernel_rfl) (fun _ _ _ h => h) (Or.inl ⟨by rfl, ?_⟩) (by simp [go_sem]) ?_
          · intro w9 hSw
            (try dsimp only at hSw)
            skip
            go_simp
          simp only [List.getElem_toArray, List.getElem_cons_succ, List.getElem_cons_zero, Act.put, List.setIfInBounds_toArray, List.set_cons_zero, List.set_cons_succ]
          refine wpAnyH_take (i := 16) (v := (.bool true)) rfl (by kernel_rfl) (by kernel_rfl) (by kernel_rfl) (fun _ _ _ h => h) (Or.inl ⟨by rfl, ?_⟩) (by simp [go_sem]) ?_
          · intro w9 hSw
            (try dsimp only at hSw)
            skip
            go_simp
          simp only [List.getElem_toArray, List.getElem_cons_succ, List.getElem_cons_zero, Act.put, List.setIfInBounds_toArray, List.set_cons_zero, List.set_cons_succ]
          refine wpAnyH_take (i := 17) (v := (.bool true)) rfl (by kernel_rfl) (by kernel_rfl) (by kernel_rfl) (fun _ _ _ h => h) (Or.inl ⟨by rfl, ?_⟩) (by simp [go_sem]) ?_
          · intro w9 hSw
            (try dsimp only at hSw)
            skip
            go_simp
          simp only [List.getElem_toArray, List.getElem_cons_succ, List.getElem_cons_zero, Act.put, List.setIfInBounds_toArray, List.set_cons_zero, List.set_cons_succ]
          refine wpAnyH_done (by kernel_rfl) ?_ _
          go_wp2
          go_ret
          exact ⟨rfl, (hg.alloc _ _).alloc _ _⟩
        · -- the second literal
          simp only [List.getElem_toArray, List.getElem_cons_succ, List.getElem_cons_zero]
          go_simp
          refine hK.out _ _ (by simp [go_sem]) (fun _ => ?_)
          clear hK K
          refine held_with (S' := fun w' => w'.cell? ⟨wr.heap.size, 0, none⟩ = some (.int .u8 88) ∧ w'.cell? ⟨wr.heap.size + 1, 0, none⟩ = some (.int .u8 120)) (fun _ h => h.1) ?_
          refine wpAnyH_take (i := 13) (v := (.string (one 120))) rfl (by kernel_rfl) (by kernel_rfl) (by kernel_rfl) (fun _ _ _ h => h) (Or.inl ⟨by rfl, ?_⟩) (by simp [go_sem]) ?_
          · intro w9 hSw
            (try dsimp only at hSw)
            obtain ⟨h1, h2⟩ := hSw
            go_simp
          simp only [List.getElem_toArray, List.getElem_cons_succ, List.getElem_cons_zero, Act.put, List.setIfInBounds_toArray, List.set_cons_zero, List.set_cons_succ]
          refine wpAnyH_ready (rs := [9]) (by kernel_rfl) (by simp) ?_
          refine AllReadyH.cons rfl (fun K hK => ?_) AllReadyH.nil
          simp only [List.getElem_toArray, List.getElem_cons_succ, List.getElem_cons_zero]
          go_simp
          refine (key1 88 (.inl rfl) _).mono ?_
          rintro e w' ⟨rfl, rfl⟩
          try go_wp2_with fail
          refine hK.out _ _ (by simp [go_sem]) (fun _ => ?_)
          clear hK K
          refine wpAnyH_ready (rs := [14]) (by kernel_rfl) (by simp) ?_
          refine AllReadyH.cons rfl (fun K hK => ?_) AllReadyH.nil
          simp only [List.getElem_toArray, List.getElem_cons_succ, List.getElem_cons_zero]
          go_simp
          refine (key1 120 (.inr rfl) _).mono ?_
          rintro e w' ⟨rfl, rfl⟩
          try go_wp2_with fail
          refine hK.out _ _ (by simp [go_sem]) (fun _ => ?_)
          clear hK K
          refine wpAnyH_take (i := 15) (v := (.bool true)) rfl (by kernel_rfl) (by kernel_rfl) (by kernel_rfl) (fun _ _ _ h => h) (Or.inl ⟨by rfl, ?_⟩) (by simp [go_sem]) ?_
          · intro w9 hSw
            (try dsimp only at hSw)
            skip
            go_simp
          simp only [List.getElem_toArray, List.getElem_cons_succ, List.getElem_cons_zero, Act.put, List.setIfInBounds_toArray, List.set_cons_zero, List.set_cons_succ]
          refine wpAnyH_take (i := 16) (v := (.bool true)) rfl (by kernel_rfl) (by kernel_rfl) (by kernel_rfl) (fun _ _ _ h => h) (Or.inl ⟨by rfl, ?_⟩) (by simp [go_sem]) ?_
          · intro w9 hSw
            (try dsimp only at hSw)
            skip
            go_simp
          simp only [List.getElem_toArray, List.getElem_cons_succ, List.getElem_cons_zero, Act.put, List.setIfInBounds_toArray, List.set_cons_zero, List.set_cons_succ]
          refine wpAnyH_take (i := 17) (v := (.bool true)) rfl (by kernel_rfl) (by kernel_rfl) (by kernel_rfl) (fun _ _ _ h => h) (Or.inl ⟨by rfl, ?_⟩) (by simp [go_sem]) ?_
          · intro w9 hSw
            (try dsimp only at hSw)
            skip
            go_simp
          simp only [List.getElem_toArray, List.getElem_cons_succ, List.getElem_cons_zero, Act.put, List.setIfInBounds_toArray, List.set_cons_zero, List.set_cons_succ]
          refine wpAnyH_done (by kernel_rfl) ?_ _
          go_wp2
          go_ret
          exact ⟨rfl, (hg.alloc _ _).alloc _ _⟩
      · -- the second literal first
        simp only [List.getElem_toArray, List.getElem_cons_succ, List.getElem_cons_zero]
        go_simp
        refine hK.out _ _ trivial (fun _ => ?_)
        clear hK K
        refine held_with (S' := fun w' => w'.cell? ⟨wr.heap.size, 0, none⟩ = some (.int .u8 120)) (fun _ _ => trivial) ?_
        refine wpAnyH_take (i := 13) (v := (.string (one 120))) rfl (by kernel_rfl) (by kernel_rfl) (by kernel_rfl) (fun _ _ _ h => h) (Or.inl ⟨by rfl, ?_⟩) (by simp [go_sem]) ?_
        · intro w9 hSw
          (try dsimp only at hSw)
          skip
          go_simp
        simp only [List.getElem_toArray, List.getElem_cons_succ, List.getElem_cons_zero, Act.put, List.setIfInBounds_toArray, List.set_cons_zero, List.set_cons_succ]
        refine wpAnyH_ready (rs := [7]) (by kernel_rfl) (by simp) ?_
        refine AllReadyH.cons rfl (fun K hK => ?_) AllReadyH.nil
        simp only [List.getElem_toArray, List.getElem_cons_succ, List.getElem_cons_zero]
        go_simp
        refine hK.out _ _ (by simp [go_sem]) (fun _ => ?_)
        clear hK K
        refine held_with (S' := fun w' => w'.cell? ⟨wr.heap.size, 0, none⟩ = some (.int .u8 120) ∧ w'.cell? ⟨wr.heap.size + 1, 0, none⟩ = some (.int .u8 88)) (fun _ h => h.1) ?_
        refine wpAnyH_take (i := 8) (v := (.string (one 88))) rfl (by kernel_rfl) (by kernel_rfl) (by kernel_rfl) (fun _ _ _ h => h) (Or.inl ⟨by rfl, ?_⟩) (by simp [go_sem]) ?_
        · intro w9 hSw
          (try dsimp only at hSw)
          obtain ⟨h1, h2⟩ := hSw
          go_simp
        simp only [List.getElem_toArray, List.getElem_cons_succ, List.getElem_cons_zero, Act.put, List.setIfInBounds_toArray, List.set_cons_zero, List.set_cons_succ]
        refine wpAnyH_ready (rs := [9]) (by kernel_rfl) (by simp) ?_
        refine AllReadyH.cons rfl (fun K hK => ?_) AllReadyH.nil
        simp only [List.getElem_toArray, List.getElem_cons_succ, List.getElem_cons_zero]
        go_simp
        refine (key1 88 (.inl rfl) _).mono ?_
        rintro e w' ⟨rfl, rfl⟩
        try go_wp2_with fail
        refine hK.out _ _ (by simp [go_sem]) (fun _ => ?_)
        clear hK K
        refine wpAnyH_ready (rs := [14]) (by kernel_rfl) (by simp) ?_
        refine AllReadyH.cons rfl (fun K hK => ?_) AllReadyH.nil
        simp only [List.getElem_toArray, List.getElem_cons_succ, List.getElem_cons_zero]
        go_simp
        refine (key1 120 (.inr rfl) _).mono ?_
        rintro e w' ⟨rfl, rfl⟩
        try go_wp2_with fail
        refine hK.out _ _ (by simp [go_sem]) (fun _ => ?_)
        clear hK K
        refine wpAnyH_take (i := 15) (v := (.bool true)) rfl (by kernel_rfl) (by kernel_rfl) (by kernel_rfl) (fun _ _ _ h => h) (Or.inl ⟨by rfl, ?_⟩) (by simp [go_sem]) ?_
        · intro w9 hSw
          (try dsimp only at hSw)
          skip
          go_simp
        simp only [List.getElem_toArray, List.getElem_cons_succ, List.getElem_cons_zero, Act.put, List.setIfInBounds_toArray, List.set_cons_zero, List.set_cons_succ]
        refine wpAnyH_take (i := 16) (v := (.bool true)) rfl (by kernel_rfl) (by kernel_rfl) (by kernel_rfl) (fun _ _ _ h => h) (Or.inl ⟨by rfl, ?_⟩) (by simp [go_sem]) ?_
        · intro w9 hSw
          (try dsimp only at hSw)
          skip
          go_simp
        simp only [List.getElem_toArray, List.getElem_cons_succ, List.getElem_cons_zero, Act.put, List.setIfInBounds_toArray, List.set_cons_zero, List.set_cons_succ]
        refine wpAnyH_take (i := 17) (v := (.bool true)) rfl (by kernel_rfl) (by kernel_rfl) (by kernel_rfl) (fun _ _ _ h => h) (Or.inl ⟨by rfl, ?_⟩) (by simp [go_sem]) ?_
        · intro w9 hSw
          (try dsimp only at hSw)
          skip
          go_simp
        simp only [List.getElem_toArray, List.getElem_cons_succ, List.getElem_cons_zero, Act.put, List.setIfInBounds_toArray, List.set_cons_zero, List.set_cons_succ]
        refine wpAnyH_done (by kernel_rfl) ?_ _
        go_wp2
        go_ret
        exact ⟨rfl, (hg.alloc _ _).alloc _ _⟩

/-- 'FnMsqlLiteralPrefixOneLetterCount' answers true at every byte. -/
theorem msql_walk (q : Int) (w : World) : Calls Try.prog 4 #[.int .u8 q] w fun e w' => e = .returned (.bool true) ∧ Grown w w' := by
  by_cases h : q = 39
  · subst h
    exact msql_quote w
  · exact msql_other q h w
end Go.Proofs.Qxb6613674a
