import Derived.Test.Qxb6613590aRows
import Derived.Test.Qxb6613590aKit
import Derived.Deep.Light
namespace Go.Proofs.Qxb6613590a
open Go.RowKit

/-- Does the word z hold column k? As the walk spells it. -/
def hasB (z : Int) (k : Nat) : Bool := bits BinOp.and IntKind.u64 z (IntKind.u64.wrap (2 ^ (k % 64))) != 0

/-- '(*rows).has'. -/
theorem has32 (b o g n c : Nat) (W : Nat) (u k uw : Nat) (z : Int) (w : World) (hu : u ≤ 65536) (huw : (u : Int) * (W : Int) = (uw : Int)) (hk : k ≤ 2147483647) (hn : uw + k / 64 < n) (hn2 : n ≤ 1073741824)
    (h0 : w.cell? ⟨b, o, none⟩ = some (.int .i64 (W : Int))) (h1 : w.cell? ⟨b, o + 1, none⟩ = some (.slice (some ⟨g, 0, none⟩) n c)) (h2 : w.cell? ⟨g, uw + k / 64, none⟩ = some (.int .u64 z)) :
    Calls Try.prog 32 #[.pointer (some ⟨b, o, none⟩), .int .i32 (u : Int), .int .i32 (k : Int)] w fun e w' => e = .returned (.bool (hasB z k)) ∧ ∃ q, w' = w.drewN q := by
  go_enter Try.func32, Try.ntmps32
  go_wp2
  go_quiet (fail)
  go_wp2
  go_ret
  exact ⟨rfl, _, rfl⟩

/-- What the struct and its three rows hold, as 'precedes' reads them. -/
structure Reach (w : World) (b cb cl cc db dc ab ac n W : Nat) (C D A : Nat → Int) : Prop where
  col : w.cell? ⟨b, 0, none⟩ = some (.slice (some ⟨cb, 0, none⟩) cl cc)
  dw : w.cell? ⟨b, 1, none⟩ = some (.int .i64 (W : Int))
  dsl : w.cell? ⟨b, 2, none⟩ = some (.slice (some ⟨db, 0, none⟩) n dc)
  aw : w.cell? ⟨b, 5, none⟩ = some (.int .i64 (W : Int))
  asl : w.cell? ⟨b, 6, none⟩ = some (.slice (some ⟨ab, 0, none⟩) n ac)
  cs : ∀ i, i < cl → w.cell? ⟨cb, i, none⟩ = some (.int .i32 (C i))
  ds : ∀ i, i < n → w.cell? ⟨db, i, none⟩ = some (.int .u64 (D i))
  ans : ∀ i, i < n → w.cell? ⟨ab, i, none⟩ = some (.int .u64 (A i))

theorem Reach.drewN {w : World} {b cb cl cc db dc ab ac n W : Nat} {C D A : Nat → Int} (h : Reach w b cb cl cc db dc ab ac n W C D A) (q : Nat) : Reach (w.drewN q) b cb cl cc db dc ab ac n W C D A :=
  ⟨h.col, h.dw, h.dsl, h.aw, h.asl, h.cs, h.ds, h.ans⟩

/-- What 'precedes' answers. -/
def preB (W : Nat) (C D A : Nat → Int) (u v : Nat) : Bool :=
  (decide (0 ≤ C v) && hasB (D (u * W + (C v).toNat / 64)) (C v).toNat) || (decide (0 ≤ C u) && hasB (A (v * W + (C u).toNat / 64)) (C u).toNat)

theorem idx_lt {u cl W k n : Nat} (hn : n = cl * W) (hu : u < cl) (hk : k < 64 * W) : u * W + k / 64 < n := by
  have h1 : (u + 1) * W ≤ cl * W := Nat.mul_le_mul_right _ hu
  rw [Nat.add_mul] at h1
  omega

set_option maxHeartbeats 400000 in
theorem prec29 (b cb cl cc db dc ab ac n W : Nat) (C D A : Nat → Int) (u v : Nat) (w : World) (h : Reach w b cb cl cc db dc ab ac n W C D A) (hn : n = cl * W) (hn2 : n ≤ 32768) (hcl : cl ≤ 65536) (hu : u < cl) (hv : v < cl) (hcu : C u < 64 * (W : Int)) (hcv : C v < 64 * (W : Int)) (hW : W ≤ 16384) :
    Calls Try.prog 29 #[.pointer (some ⟨b, 0, none⟩), .int .i32 (u : Int), .int .i32 (v : Int)] w fun e w' => e = .returned (.bool (preB W C D A u v)) ∧ ∃ q, w' = w.drewN q := by
  have t1 := h.col
  have t2 := h.cs u hu
  have t3 := h.cs v hv
  have lu : (u : Int) < (cl : Int) := by omega
  have lv : (v : Int) < (cl : Int) := by omega
  have cD : ∀ kv : Nat, C v = (kv : Int) → ∀ wx : World, (∃ q, wx = w.drewN q) → Calls Try.prog 32 #[.pointer (some ⟨b, 1, none⟩), .int .i32 (u : Int), .int .i32 (kv : Int)] wx fun e w' => e = .returned (.bool (hasB (D (u * W + kv / 64)) kv)) ∧ ∃ q, w' = w.drewN q := by
    rintro kv ekv _ ⟨q, rfl⟩
    have hi : u * W + kv / 64 < n := idx_lt hn hu (by omega)
    refine (has32 b 1 db n dc W u kv (u * W) _ (w.drewN q) (by omega) (Int.natCast_mul u W).symm (by omega) hi (by omega) (h.drewN q).dw (h.drewN q).dsl ((h.drewN q).ds _ hi)).mono ?_
    rintro e w' ⟨rfl, q', rfl⟩
    exact ⟨rfl, q + q', by simp⟩
  have cA : ∀ ku : Nat, C u = (ku : Int) → ∀ wx : World, (∃ q, wx = w.drewN q) → Calls Try.prog 32 #[.pointer (some ⟨b, 5, none⟩), .int .i32 (v : Int), .int .i32 (ku : Int)] wx fun e w' => e = .returned (.bool (hasB (A (v * W + ku / 64)) ku)) ∧ ∃ q, w' = w.drewN q := by
    rintro ku eku _ ⟨q, rfl⟩
    have hi : v * W + ku / 64 < n := idx_lt hn hv (by omega)
    refine (has32 b 5 ab n ac W v ku (v * W) _ (w.drewN q) (by omega) (Int.natCast_mul v W).symm (by omega) hi (by omega) (h.drewN q).aw (h.drewN q).asl ((h.drewN q).ans _ hi)).mono ?_
    rintro e w' ⟨rfl, q', rfl⟩
    exact ⟨rfl, q + q', by simp⟩
  clear h hn hn2 hcl hu hv hcu hcv hW
  by_cases gv : 0 ≤ C v
  · obtain ⟨kv, ekv⟩ : ∃ k : Nat, C v = (k : Int) := ⟨(C v).toNat, by omega⟩
    have cD := cD kv ekv
    cases hb : hasB (D (u * W + kv / 64)) kv
    · by_cases gu : 0 ≤ C u
      · obtain ⟨ku, eku⟩ : ∃ k : Nat, C u = (k : Int) := ⟨(C u).toNat, by omega⟩
        have cA := cA ku eku
        have e : preB W C D A u v = hasB (A (v * W + ku / 64)) ku := by simp [preB, ekv, eku, hb]
        rw [e]
        rw [hb] at cD
        rw [ekv] at t3
        rw [eku] at t2
        clear e hb ekv eku gu gv
        go_enter Try.func29, Try.ntmps29
        go_wp2
        go_quiet (fail)
        go_wp2_with fail
        refine (cD _ ⟨_, rfl⟩).mono ?_
        rintro e w' ⟨rfl, q1, rfl⟩
        go_wp2_with fail
        refine (cA _ ⟨_, rfl⟩).mono ?_
        rintro e w' ⟨rfl, q2, rfl⟩
        go_wp2
        go_ret
        exact ⟨rfl, _, rfl⟩
      · have e : preB W C D A u v = false := by simp [preB, ekv, gu, hb]
        rw [e]
        rw [hb] at cD
        rw [ekv] at t3
        clear e hb ekv gv cA
        go_enter Try.func29, Try.ntmps29
        go_wp2
        go_quiet (fail)
        go_wp2_with fail
        refine (cD _ ⟨_, rfl⟩).mono ?_
        rintro e w' ⟨rfl, q1, rfl⟩
        go_wp2
        go_ret
        exact ⟨rfl, _, rfl⟩
    · have e : preB W C D A u v = true := by simp [preB, ekv, hb]
      rw [e]
      rw [hb] at cD
      rw [ekv] at t3
      clear e hb ekv gv cA
      go_enter Try.func29, Try.ntmps29
      go_wp2
      go_quiet (fail)
      go_wp2_with fail
      refine (cD _ ⟨_, rfl⟩).mono ?_
      rintro e w' ⟨rfl, q1, rfl⟩
      go_wp2
      go_ret
      exact ⟨rfl, _, rfl⟩
  · by_cases gu : 0 ≤ C u
    · obtain ⟨ku, eku⟩ : ∃ k : Nat, C u = (k : Int) := ⟨(C u).toNat, by omega⟩
      have cA := cA ku eku
      have e : preB W C D A u v = hasB (A (v * W + ku / 64)) ku := by simp [preB, gv, eku]
      rw [e]
      rw [eku] at t2
      clear e eku gu cD
      go_enter Try.func29, Try.ntmps29
      go_wp2
      go_quiet (fail)
      go_wp2_with fail
      refine (cA _ ⟨_, rfl⟩).mono ?_
      rintro e w' ⟨rfl, q2, rfl⟩
      go_wp2
      go_ret
      exact ⟨rfl, _, rfl⟩
    · have e : preB W C D A u v = false := by simp [preB, gu, gv]
      rw [e]
      clear e cA cD
      go_enter Try.func29, Try.ntmps29
      go_wp2
      go_quiet (fail)
      go_wp2
      go_ret
      exact ⟨rfl, _, rfl⟩
end Go.Proofs.Qxb6613590a
