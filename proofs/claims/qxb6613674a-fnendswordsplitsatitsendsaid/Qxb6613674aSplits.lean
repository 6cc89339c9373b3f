import Derived.Test.Qxb6613674aEnds
import Derived.Lib.Strings
import Derived.Deep.Cut
namespace Go.Proofs.Qxb6613674a
open Go.RowKit

set_option maxRecDepth 100000 in
/-- 'zzBytes_FnEndsWordSplitsAtItsEnd' only computes. -/
theorem bytes17 (uni lf : Bool) (c : Int) (s : ByteArray) (e : Int) (w : World) (hs : (s.size : Int) ≤ 9223372036854775807) :
    Calls Try.prog 17 #[.bool uni, .bool lf, .int .u8 c, .string s, .int .i64 e] w fun r w' => r = .returned (.bool (decide ((s.size : Int) ≤ 1048576))) ∧ w = w' := by
  by_cases h : (1048576 : Int) < (s.size : Int)
  · rw [show decide ((s.size : Int) ≤ 1048576) = false from decide_eq_false (by omega)]
    go_enter Try.func17, Try.ntmps17
    go_wp2
    go_ret
    exact ⟨rfl, rfl⟩
  · rw [show decide ((s.size : Int) ≤ 1048576) = true from decide_eq_true (by omega)]
    go_enter Try.func17, Try.ntmps17
    go_wp2
    go_ret
    exact ⟨rfl, rfl⟩

theorem ext_size0 (s : ByteArray) (k : Nat) (hk : k ≤ s.size) : (s.extract 0 k).size = k := by rw [ByteArray.size_extract]; omega
theorem ext_size1 (s : ByteArray) (k : Nat) : (s.extract k s.size).size = s.size - k := by rw [ByteArray.size_extract]; omega
theorem ext_get (s : ByteArray) (k : Nat) (hk : k < s.size) (h : 0 < (s.extract k s.size).size) : ((s.extract k s.size)[0]'h).toNat = (s[k]'hk).toNat := by
  rw [ByteArray.getElem_extract]; simp

theorem ext_one (t : ByteArray) (h1 : 0 < t.size) (h : 0 < (t.extract 0 1).size) : ((t.extract 0 1)[0]'h).toNat = (t[0]'h1).toNat := by
  rw [ByteArray.getElem_extract]

set_option maxHeartbeats 800000 in
set_option maxRecDepth 100000 in
theorem splits_end (uni lf : Bool) (c : Int) (s : ByteArray) (w : World) (hs : s.size ≤ 1048576) :
    Calls Try.prog 7 #[.bool uni, .bool lf, .int .u8 c, .string s, .int .i64 (s.size : Int)] w fun e w' => e = .returned (.bool true) ∧ Grown w w' := by
  have hd : decide ((s.size : Int) ≤ 1048576) = true := decide_eq_true (by omega)
  have hz : (s.size : Int) ≤ 9223372036854775807 := by omega
  have k1 : decide ((1048576 : Int) < (s.size : Int)) = false := decide_eq_false (by omega)
  have HS : Aside (s.size ≤ 1048576) := hs
  clear hs
  go_enter Try.func7, Try.ntmps7
  go_wp2_with fail
  refine (bytes17 _ _ _ _ _ _ hz).mono ?_
  rintro e w' ⟨rfl, rfl⟩
  rw [hd]
  clear hd
  go_wp2_with fail
  refine (prof14 uni lf _).mono ?_
  rintro e w1 ⟨rfl, hP, hG⟩
  go_wp2_with fail
  refine (ends_at _ _ _ _ _ _ _ hP rfl).mono ?_
  rintro e w' ⟨rfl, rfl⟩
  go_wp2_with fail
  refine (ends_at _ _ _ _ _ _ _ hP rfl).mono ?_
  rintro e w' ⟨rfl, rfl⟩
  go_wp2_with fail
  refine (ends_at _ _ _ _ _ _ _ hP rfl).mono ?_
  rintro e w' ⟨rfl, rfl⟩
  rw [show okB lf 97 = true by cases lf <;> decide]
  go_wp2_with fail
  refine (ends_at _ _ _ _ _ _ _ hP (by rfl)).mono ?_
  rintro e w' ⟨rfl, rfl⟩
  go_wp2_with fail
  refine (ends_at _ _ _ _ _ _ _ hP (by rfl)).mono ?_
  rintro e w' ⟨rfl, rfl⟩
  go_upto_region 16 with fail
  by_cases hc : c = 95
  · subst hc
    cases lf
    · rw [show okB false 95 = true by decide]
      go_wp2
      go_ret
      exact ⟨rfl, hG⟩
    · rw [show okB true 95 = false by decide]
      go_wp2
      go_ret
      exact ⟨rfl, hG⟩
  · have b1 : (c == 95) = false := beq_eq_false_iff_ne.2 hc
    rw [show okB lf c = true by simp [okB, hc]]
    go_wp2
    go_ret
    exact ⟨rfl, hG⟩

set_option maxHeartbeats 800000 in
set_option maxRecDepth 100000 in
theorem splits_in (uni lf : Bool) (c : Int) (s : ByteArray) (k : Nat) (w : World) (hs : s.size ≤ 1048576) (hk : k < s.size) :
    Calls Try.prog 7 #[.bool uni, .bool lf, .int .u8 c, .string s, .int .i64 (k : Int)] w fun e w' => e = .returned (.bool true) ∧ Grown w w' := by
  have hd : decide ((s.size : Int) ≤ 1048576) = true := decide_eq_true (by omega)
  have hz : (s.size : Int) ≤ 9223372036854775807 := by omega
  have k1 : decide ((1048576 : Int) < (s.size : Int)) = false := decide_eq_false (by omega)
  have HS : Aside (s.size ≤ 1048576) := hs
  have hki : (k : Int) < (s.size : Int) := by omega
  obtain ⟨b, hb⟩ : ∃ b, (s[k]'hk).toNat = b := ⟨_, rfl⟩
  have HB : Aside ((s[k]'hk).toNat = b) := hb
  clear hs hb
  go_enter Try.func7, Try.ntmps7
  go_wp2_with fail
  refine (bytes17 _ _ _ _ _ _ hz).mono ?_
  rintro e w' ⟨rfl, rfl⟩
  rw [hd]
  clear hd
  go_wp2_with fail
  refine (prof14 uni lf _).mono ?_
  rintro e w1 ⟨rfl, hP, hG⟩
  go_wp2_with fail
  refine (ends_in _ _ _ _ _ k b _ hP hk HB.out).mono ?_
  rintro e w' ⟨rfl, rfl⟩
  go_wp2_with fail
  refine (ends_at _ _ _ _ _ _ _ hP (by rw [ext_size0 s k (by omega)])).mono ?_
  rintro e w' ⟨rfl, rfl⟩
  go_wp2_with fail
  refine (ends_in _ _ _ _ _ k b _ hP hk HB.out).mono ?_
  rintro e w' ⟨rfl, rfl⟩
  rw [show okB lf 97 = true by cases lf <;> decide, Bool.true_and]
  go_wp2_with fail
  refine (ends_in _ _ _ _ (s.extract k s.size) 0 b _ hP (by rw [ext_size1]; omega) (by rw [ext_get s k hk]; exact HB.out)).mono ?_
  rintro e w' ⟨rfl, rfl⟩
  by_cases hl : k + 1 = s.size
  · have h1 : ((s.size - k : Nat) : Int) = 1 := by omega
    go_wp2_with fail
    refine (ends_in _ _ _ _ (s.extract k s.size) 0 b _ hP (by rw [ext_size1]; omega) (by rw [ext_get s k hk]; exact HB.out)).mono ?_
    rintro e w' ⟨rfl, rfl⟩
    go_upto_region 16 with fail
    obtain ⟨n, hn⟩ : ∃ n, nextB uni (b : Int) = n := ⟨_, rfl⟩
    rw [hn]
    clear hn
    by_cases hc : c = 95
    · subst hc
      cases lf
      · rw [show okB false 95 = true by decide]
        cases n <;> (go_wp2; go_ret; exact ⟨rfl, hG⟩)
      · rw [show okB true 95 = false by decide]
        cases n <;> (go_wp2; go_ret; exact ⟨rfl, hG⟩)
    · have b1 : (c == 95) = false := beq_eq_false_iff_ne.2 hc
      rw [show okB lf c = true by simp [okB, hc]]
      cases n <;> (go_wp2; go_ret; exact ⟨rfl, hG⟩)
  · have h1 : (1 : Int) < ((s.size - k : Nat) : Int) := by omega
    go_wp2_with fail
    refine (ends_in _ _ _ _ ((s.extract k s.size).extract 0 1) 0 b _ hP (by rw [ByteArray.size_extract, ext_size1]; omega) (by rw [ext_one (s.extract k s.size) (by rw [ext_size1]; omega), ext_get s k hk]; exact HB.out)).mono ?_
    rintro e w' ⟨rfl, rfl⟩
    go_upto_region 16 with fail
    obtain ⟨n, hn⟩ : ∃ n, nextB uni (b : Int) = n := ⟨_, rfl⟩
    rw [hn]
    clear hn
    by_cases hc : c = 95
    · subst hc
      cases lf
      · rw [show okB false 95 = true by decide]
        cases n <;> (go_wp2; go_ret; exact ⟨rfl, hG⟩)
      · rw [show okB true 95 = false by decide]
        cases n <;> (go_wp2; go_ret; exact ⟨rfl, hG⟩)
    · have b1 : (c == 95) = false := beq_eq_false_iff_ne.2 hc
      rw [show okB lf c = true by simp [okB, hc]]
      cases n <;> (go_wp2; go_ret; exact ⟨rfl, hG⟩)

set_option maxRecDepth 100000 in
/-- The inputs at which she answers true at once. -/
theorem splits_early (uni lf : Bool) (c : Int) (s : ByteArray) (e : Int) (w : World) (hz : (s.size : Int) ≤ 9223372036854775807) (h : (1048576 : Int) < (s.size : Int) ∨ e < 0 ∨ (s.size : Int) < e) :
    Calls Try.prog 7 #[.bool uni, .bool lf, .int .u8 c, .string s, .int .i64 e] w fun r w' => r = .returned (.bool true) ∧ Grown w w' := by
  by_cases hs : (1048576 : Int) < (s.size : Int)
  · have hd : decide ((s.size : Int) ≤ 1048576) = false := decide_eq_false (by omega)
    clear h
    go_enter Try.func7, Try.ntmps7
    go_wp2_with fail
    refine (bytes17 _ _ _ _ _ _ hz).mono ?_
    rintro r w' ⟨rfl, rfl⟩
    rw [hd]
    clear hd
    go_wp2
    go_ret
    exact ⟨rfl, Grown.refl _⟩
  · have hd : decide ((s.size : Int) ≤ 1048576) = true := decide_eq_true (by omega)
    have k1 : decide ((1048576 : Int) < (s.size : Int)) = false := decide_eq_false hs
    have H : Aside (e < 0 ∨ (s.size : Int) < e) := by
      rcases h with h | h
      · exact absurd h hs
      · exact h
    clear h hs
    by_cases he : e < 0
    · have k2 : decide (e < 0) = true := decide_eq_true he
      go_enter Try.func7, Try.ntmps7
      go_wp2_with fail
      refine (bytes17 _ _ _ _ _ _ hz).mono ?_
      rintro r w' ⟨rfl, rfl⟩
      rw [hd]
      clear hd
      go_wp2
      go_ret
      exact ⟨rfl, Grown.refl _⟩
    · have k2 : decide (e < 0) = false := decide_eq_false he
      have k3 : (s.size : Int) < e := by
        rcases H.out with h | h
        · exact absurd h he
        · exact h
      go_enter Try.func7, Try.ntmps7
      go_wp2_with fail
      refine (bytes17 _ _ _ _ _ _ hz).mono ?_
      rintro r w' ⟨rfl, rfl⟩
      rw [hd]
      clear hd
      go_wp2
      go_ret
      exact ⟨rfl, Grown.refl _⟩

/-- 'FnEndsWordSplitsAtItsEnd' answers true at every input. -/
theorem splits_walk (uni lf : Bool) (c : Int) (s : ByteArray) (e : Int) (hs : s.size ≤ maxLen) (w : World) :
    Calls Try.prog 7 #[.bool uni, .bool lf, .int .u8 c, .string s, .int .i64 e] w fun r w' => r = .returned (.bool true) ∧ Grown w w' := by
  unfold maxLen at hs
  by_cases h : (1048576 : Int) < (s.size : Int) ∨ e < 0 ∨ (s.size : Int) < e
  · exact splits_early uni lf c s e w (by omega) h
  · obtain ⟨k, rfl⟩ : ∃ k : Nat, e = (k : Int) := ⟨e.toNat, by omega⟩
    by_cases hk : k < s.size
    · exact splits_in uni lf c s k w (by omega) hk
    · obtain rfl : k = s.size := by omega
      exact splits_end uni lf c s w (by omega)
end Go.Proofs.Qxb6613674a
