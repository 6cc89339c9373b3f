import Derived.Test.Qxb6613590aPrecCalls
namespace Go.Proofs.Qxb6613590a
open Go.RowKit

/-- 'ZZreachPrecedes' over three rows of the call's own. -/
theorem prec19 (cb cl cc db dc ab ac n W : Nat) (C D A : Nat → Int) (u v : Nat) (w : World)
    (rc : w.rowIs cb 21 cl (fun i => .int .i32 (C i))) (rd : w.rowIs db 34 n (fun i => .int .u64 (D i))) (ra : w.rowIs ab 34 n (fun i => .int .u64 (A i)))
    (hn : n = cl * W) (hn2 : n ≤ 32768) (hcl : cl ≤ 65536) (hu : u < cl) (hv : v < cl) (hcu : C u < 64 * (W : Int)) (hcv : C v < 64 * (W : Int)) (hW : W ≤ 16384) :
    Calls Try.prog 19 #[.slice (some ⟨cb, 0, none⟩) cl cc, .int .i64 (W : Int), .slice (some ⟨db, 0, none⟩) n dc, .slice (some ⟨ab, 0, none⟩) n ac, .int .i32 (u : Int), .int .i32 (v : Int)] w fun e w' => e = .returned (.bool (preB W C D A u v)) ∧ Below w.heap.size w w' := by
  have key : ∀ o : Obj, Reach (w.alloc o) w.heap.size cb cl cc db dc ab ac n W C D A → Calls Try.prog 29 #[.pointer (some ⟨w.heap.size, 0, none⟩), .int .i32 (u : Int), .int .i32 (v : Int)] (w.alloc o) fun e w' => e = .returned (.bool (preB W C D A u v)) ∧ ∃ q, w' = (w.alloc o).drewN q :=
    fun o ho => prec29 _ _ _ _ _ _ _ _ _ _ _ _ _ _ _ _ ho hn hn2 hcl hu hv hcu hcv hW
  have cs : ∀ o i, i < cl → (w.alloc o).cell? ⟨cb, i, none⟩ = some (.int .i32 (C i)) := fun o i hi => (rc.alloc o).cell hi
  have ds : ∀ o i, i < n → (w.alloc o).cell? ⟨db, i, none⟩ = some (.int .u64 (D i)) := fun o i hi => (rd.alloc o).cell hi
  have as1 : ∀ o i, i < n → (w.alloc o).cell? ⟨ab, i, none⟩ = some (.int .u64 (A i)) := fun o i hi => (ra.alloc o).cell hi
  clear rc rd ra hn hn2 hcl hu hv hcu hcv hW
  go_enter Try.func19, Try.ntmps19
  go_wp2_with fail
  refine (key _ ⟨by simp [go_sem], by simp [go_sem], by simp [go_sem], by simp [go_sem], by simp [go_sem], cs _, ds _, as1 _⟩).mono ?_
  rintro e w' ⟨rfl, q, rfl⟩
  go_wp2
  go_ret
  exact ⟨rfl, below_drewN ((Below.refl _ _).alloc (Nat.le_refl _) _) _⟩

/-- What 'zzReachFits' asks. -/
structure Fits (cl dl al : Nat) (C : Nat → Int) (a1 u v : Int) : Prop where
  lo : 1 ≤ a1
  hi : a1 ≤ 16384
  dn : (dl : Int) = (cl : Int) * a1
  an : (al : Int) = (cl : Int) * a1
  u0 : 0 ≤ u
  u1 : u < cl
  v0 : 0 ≤ v
  v1 : v < cl
  cu : C u.toNat < 64 * a1
  cv : C v.toNat < 64 * a1

/-- How 'zzReachFits' ends: it answers; where it answers true, the shape fits. -/
def FitsEnd (F : Prop) (e : Ending) : Prop := ∃ r : Bool, e = .returned (.bool r) ∧ (r = true → F)
theorem fits_no {F : Prop} : FitsEnd F (.returned (.bool false)) := ⟨false, rfl, fun h => by simp at h⟩
theorem fits_yes {F : Prop} (h : F) : FitsEnd F (.returned (.bool true)) := ⟨true, rfl, fun _ => h⟩

set_option maxHeartbeats 800000 in
set_option maxRecDepth 100000 in
theorem fits17 (ca : Option Addr) (cl cc : Nat) (a1 : Int) (da : Option Addr) (dl dc : Nat) (aa : Option Addr) (al ac : Nat) (u v : Int) (C : Nat → Int) (w : World)
    (hu2 : u ≤ 2147483647) (hv2 : v ≤ 2147483647) (hcl : (cl : Int) ≤ 65536) (hdl : (dl : Int) ≤ 32768) (hal : (al : Int) ≤ 32768) (hcell : ∀ i, i < cl → ∃ x, ca = some x ∧ w.cell? (x.add i) = some (.int .i32 (C i)) ∧ -2147483648 ≤ C i ∧ C i ≤ 2147483647) :
    Calls Try.prog 17 #[.slice ca cl cc, .int .i64 a1, .slice da dl dc, .slice aa al ac, .int .i32 u, .int .i32 v] w fun e w' => FitsEnd (Fits cl dl al C a1 u v) e ∧ w = w' := by
  by_cases c1 : a1 < 1
  · have d1 : decide (a1 < 1) = true := decide_eq_true c1
    go_enter Try.func17, Try.ntmps17
    go_wp2
    go_ret
    exact ⟨fits_no, rfl⟩
  have d1 : decide (a1 < 1) = false := decide_eq_false c1
  by_cases c2 : 16384 < a1
  · have d2 : decide (16384 < a1) = true := decide_eq_true c2
    go_enter Try.func17, Try.ntmps17
    go_wp2
    go_ret
    exact ⟨fits_no, rfl⟩
  have d2 : decide (16384 < a1) = false := decide_eq_false c2
  obtain ⟨W, rfl⟩ : ∃ W : Nat, a1 = (W : Int) := ⟨a1.toNat, by omega⟩
  have w1 : (1 : Int) ≤ (W : Int) := by omega
  have w2 : (W : Int) ≤ 16384 := by omega
  clear c1 c2
  obtain ⟨p, hp⟩ : ∃ p : Nat, (cl : Int) * (W : Int) = (p : Int) := ⟨cl * W, (Int.natCast_mul _ _).symm⟩
  have hp2 : (p : Int) ≤ 1073741824 := by
    have h1 : cl * W ≤ 65536 * 16384 := Nat.mul_le_mul (by omega) (by omega)
    have h2 : ((cl * W : Nat) : Int) = (p : Int) := by rw [Int.natCast_mul]; exact hp
    omega
  by_cases c3 : dl = p
  · by_cases c4 : al = p
    · subst c3
      subst c4
      by_cases c5 : u < 0
      · have d5 : decide (u < 0) = true := decide_eq_true c5
        go_enter Try.func17, Try.ntmps17
        go_wp2
        go_ret
        exact ⟨fits_no, rfl⟩
      have d5 : decide (u < 0) = false := decide_eq_false c5
      by_cases c6 : (cl : Int) ≤ u
      · go_enter Try.func17, Try.ntmps17
        go_wp2
        go_ret
        exact ⟨fits_no, rfl⟩
      by_cases c7 : v < 0
      · have d7 : decide (v < 0) = true := decide_eq_true c7
        go_enter Try.func17, Try.ntmps17
        go_wp2
        go_ret
        exact ⟨fits_no, rfl⟩
      have d7 : decide (v < 0) = false := decide_eq_false c7
      by_cases c8 : (cl : Int) ≤ v
      · go_enter Try.func17, Try.ntmps17
        go_wp2
        go_ret
        exact ⟨fits_no, rfl⟩
      obtain ⟨u, rfl⟩ : ∃ k : Nat, u = (k : Int) := ⟨u.toNat, by omega⟩
      obtain ⟨v, rfl⟩ : ∃ k : Nat, v = (k : Int) := ⟨v.toNat, by omega⟩
      have lu : (u : Int) < (cl : Int) := by omega
      have lv : (v : Int) < (cl : Int) := by omega
      clear c5 c6 c7 c8
      obtain ⟨x, rfl, hx, x1, x2⟩ := hcell u (by omega)
      obtain ⟨_, e, hy, y1, y2⟩ := hcell v (by omega)
      cases e
      clear hcell
      by_cases c9 : C u < 64 * (W : Int)
      · by_cases c10 : C v < 64 * (W : Int)
        · go_enter Try.func17, Try.ntmps17
          go_wp2
          go_ret
          exact ⟨fits_yes ⟨w1, w2, hp.symm, hp.symm, by omega, lu, by omega, lv, by simpa using c9, by simpa using c10⟩, rfl⟩
        · go_enter Try.func17, Try.ntmps17
          go_wp2
          go_ret
          exact ⟨fits_no, rfl⟩
      · go_enter Try.func17, Try.ntmps17
        go_wp2
        go_ret
        exact ⟨fits_no, rfl⟩
    · have b4 : ((al : Int) != (p : Int)) = true := by simp; omega
      subst c3
      go_enter Try.func17, Try.ntmps17
      go_wp2
      go_ret
      exact ⟨fits_no, rfl⟩
  · have b3 : ((dl : Int) != (p : Int)) = true := by simp; omega
    go_enter Try.func17, Try.ntmps17
    go_wp2
    go_ret
    exact ⟨fits_no, rfl⟩
end Go.Proofs.Qxb6613590a
