import Derived.Test.Qxb6613674aRows
import Derived.WalkKit
import Derived.WalkSpells
import Derived.WalkLawsBesides
import Derived.RowKit3
import Derived.OpenShut
import Derived.Outline
import Derived.Deep.LoopGhost
namespace Go.Proofs.Qxb6613674a
open Go.RowKit

/-- Is b a quote? -/
def qB (b : Int) : Bool := decide (b = 39 ∨ b = 34 ∨ b = 96)

/-- 'isQuote'. -/
theorem quote25 (b : Int) (w : World) : Calls Try.prog 25 #[.int .u8 b] w fun e w' => e = .returned (.bool (qB b)) ∧ w = w' := by
  by_cases h1 : b = 39
  · subst h1
    rw [show qB 39 = true by decide]
    go_enter Try.func25, Try.ntmps25
    go_wp2
    go_ret
    exact ⟨rfl, rfl⟩
  by_cases h2 : b = 34
  · subst h2
    rw [show qB 34 = true by decide]
    go_enter Try.func25, Try.ntmps25
    go_wp2
    go_ret
    exact ⟨rfl, rfl⟩
  by_cases h3 : b = 96
  · subst h3
    rw [show qB 96 = true by decide]
    go_enter Try.func25, Try.ntmps25
    go_wp2
    go_ret
    exact ⟨rfl, rfl⟩
  · have e : qB b = false := decide_eq_false (by omega)
    have b1 : (b == 39) = false := beq_eq_false_iff_ne.2 h1
    have b2 : (b == 34) = false := beq_eq_false_iff_ne.2 h2
    have b3 : (b == 96) = false := beq_eq_false_iff_ne.2 h3
    rw [e]
    clear e
    go_enter Try.func25, Try.ntmps25
    go_wp2
    go_ret
    exact ⟨rfl, rfl⟩

/-- The profile lies at block g. -/
structure Prof (w : World) (g : Nat) (uni lf : Bool) : Prop where
  cu : w.cell? ⟨g, 2, none⟩ = some (.bool uni)
  cl : w.cell? ⟨g, 3, none⟩ = some (.bool lf)

/-- 'ZZnewProfile'. -/
theorem prof14 (uni lf : Bool) (w : World) : Calls Try.prog 14 #[.bool uni, .bool lf] w fun e w' => e = .returned (.pointer (some ⟨w.heap.size, 0, none⟩)) ∧ Prof w' w.heap.size uni lf ∧ Grown w w' := by
  go_enter Try.func14, Try.ntmps14
  go_wp2
  go_ret
  exact ⟨rfl, ⟨by simp [go_sem], by simp [go_sem]⟩, (Grown.refl _).alloc _ _⟩

/-- May the word's start end it? -/
def okB (lf : Bool) (c : Int) : Bool := !(decide (c = 95) && lf)
/-- May it end ahead of the byte b? -/
def nextB (uni : Bool) (b : Int) : Bool := !qB b && (decide (b < 128) || !uni)

set_option maxRecDepth 100000 in
/-- 'ZZendsWord' at the text's end. -/
theorem ends_at (g : Nat) (uni lf : Bool) (c : Int) (s : ByteArray) (e : Int) (w : World) (h : Prof w g uni lf) (he : e = (s.size : Int)) :
    Calls Try.prog 15 #[.pointer (some ⟨g, 0, none⟩), .int .u8 c, .string s, .int .i64 e] w fun r w' => r = .returned (.bool (okB lf c)) ∧ w = w' := by
  subst he
  obtain ⟨h1, h2⟩ := h
  by_cases hc : c = 95
  · subst hc
    cases lf
    · rw [show okB false 95 = true by decide]
      go_enter Try.func15, Try.ntmps15
      go_wp2
      go_ret
      exact ⟨rfl, rfl⟩
    · rw [show okB true 95 = false by decide]
      go_enter Try.func15, Try.ntmps15
      go_wp2
      go_ret
      exact ⟨rfl, rfl⟩
  · have b1 : (c == 95) = false := beq_eq_false_iff_ne.2 hc
    rw [show okB lf c = true by simp [okB, hc]]
    go_enter Try.func15, Try.ntmps15
    go_wp2
    go_ret
    exact ⟨rfl, rfl⟩

theorem lf_of {lf : Bool} (h : (((95 : Int) == 95) = false) ∨ lf = false) : lf = false := by
  rcases h with h | h
  · simp at h
  · exact h

set_option maxHeartbeats 1600000 in
set_option maxRecDepth 100000 in
/-- 'ZZendsWord' ahead of the byte b. -/
theorem ends_in (g : Nat) (uni lf : Bool) (c : Int) (s : ByteArray) (k b : Nat) (w : World) (h : Prof w g uni lf) (hk : k < s.size) (hb : (s[k]'hk).toNat = b) :
    Calls Try.prog 15 #[.pointer (some ⟨g, 0, none⟩), .int .u8 c, .string s, .int .i64 (k : Int)] w fun r w' => r = .returned (.bool (okB lf c && nextB uni (b : Int))) ∧ w = w' := by
  obtain ⟨h1, h2⟩ := h
  have hne : ((k : Int) == (s.size : Int)) = false := beq_eq_false_iff_ne.2 (by omega)
  have hki : (k : Int) < (s.size : Int) := by omega
  by_cases hc : c = 95 ∧ lf = true
  · obtain ⟨rfl, rfl⟩ := hc
    rw [show (okB true 95 && nextB uni (b : Int)) = false by simp [okB]]
    go_enter Try.func15, Try.ntmps15
    go_wp2
    go_ret
    exact ⟨rfl, rfl⟩
  · have ho : okB lf c = true := by
      cases lf
      · simp [okB]
      · have : ¬ c = 95 := fun e => hc ⟨e, rfl⟩
        simp [okB, this]
    have hcc : ((c == 95) = false) ∨ lf = false := by
      cases lf
      · exact .inr rfl
      · exact .inl (beq_eq_false_iff_ne.2 (fun e => hc ⟨e, rfl⟩))
    rw [ho, Bool.true_and]
    clear ho hc
    cases hq : qB (b : Int)
    · have HQ : Aside (qB (b : Int) = false) := hq
      by_cases h128 : b < 128
      · rw [show nextB uni (b : Int) = true by simp [nextB, hq]; omega]
        have b128 : decide ((b : Int) < 128) = true := decide_eq_true (by omega)
        clear hq
        by_cases hc : c = 95
        · subst hc
          obtain rfl : lf = false := lf_of hcc
          clear hcc
          go_enter Try.func15, Try.ntmps15
          go_wp2_with (first | (go_at_call 25; refine (quote25 _ _).mono ?_; rintro e w' ⟨rfl, rfl⟩; rw [HQ.out]) | go_in)
          go_ret
          exact ⟨rfl, rfl⟩
        · have b1 : (c == 95) = false := beq_eq_false_iff_ne.2 hc
          clear hcc
          go_enter Try.func15, Try.ntmps15
          go_wp2_with (first | (go_at_call 25; refine (quote25 _ _).mono ?_; rintro e w' ⟨rfl, rfl⟩; rw [HQ.out]) | go_in)
          go_ret
          exact ⟨rfl, rfl⟩
      · have b128 : decide ((b : Int) < 128) = false := decide_eq_false (by omega)
        cases uni
        · rw [show nextB false (b : Int) = true by simp [nextB, hq]]
          clear hq
          by_cases hc : c = 95
          · subst hc
            obtain rfl : lf = false := lf_of hcc
            clear hcc
            go_enter Try.func15, Try.ntmps15
            go_wp2_with (first | (go_at_call 25; refine (quote25 _ _).mono ?_; rintro e w' ⟨rfl, rfl⟩; rw [HQ.out]) | go_in)
            go_ret
            exact ⟨rfl, rfl⟩
          · have b1 : (c == 95) = false := beq_eq_false_iff_ne.2 hc
            clear hcc
            go_enter Try.func15, Try.ntmps15
            go_wp2_with (first | (go_at_call 25; refine (quote25 _ _).mono ?_; rintro e w' ⟨rfl, rfl⟩; rw [HQ.out]) | go_in)
            go_ret
            exact ⟨rfl, rfl⟩
        · rw [show nextB true (b : Int) = false by simp [nextB]; omega]
          clear hq
          by_cases hc : c = 95
          · subst hc
            obtain rfl : lf = false := lf_of hcc
            clear hcc
            go_enter Try.func15, Try.ntmps15
            go_wp2_with (first | (go_at_call 25; refine (quote25 _ _).mono ?_; rintro e w' ⟨rfl, rfl⟩; rw [HQ.out]) | go_in)
            go_ret
            exact ⟨rfl, rfl⟩
          · have b1 : (c == 95) = false := beq_eq_false_iff_ne.2 hc
            clear hcc
            go_enter Try.func15, Try.ntmps15
            go_wp2_with (first | (go_at_call 25; refine (quote25 _ _).mono ?_; rintro e w' ⟨rfl, rfl⟩; rw [HQ.out]) | go_in)
            go_ret
            exact ⟨rfl, rfl⟩
    · have HQ : Aside (qB (b : Int) = true) := hq
      rw [show nextB uni (b : Int) = false by simp [nextB, hq]]
      clear hq
      by_cases hc : c = 95
      · subst hc
        obtain rfl : lf = false := lf_of hcc
        clear hcc
        go_enter Try.func15, Try.ntmps15
        go_wp2_with (first | (go_at_call 25; refine (quote25 _ _).mono ?_; rintro e w' ⟨rfl, rfl⟩; rw [HQ.out]) | go_in)
        go_ret
        exact ⟨rfl, rfl⟩
      · have b1 : (c == 95) = false := beq_eq_false_iff_ne.2 hc
        clear hcc
        go_enter Try.func15, Try.ntmps15
        go_wp2_with (first | (go_at_call 25; refine (quote25 _ _).mono ?_; rintro e w' ⟨rfl, rfl⟩; rw [HQ.out]) | go_in)
        go_ret
        exact ⟨rfl, rfl⟩
end Go.Proofs.Qxb6613674a
