import Derived.Test.Qxb6613590aPrecMem
import Derived.Deep.CutRange
import Derived.Deep.DeepCutAuto
import Derived.Deep.Light
namespace Go.Proofs.Qxb6613590a
open Go.RowKit

theorem Try.info21m : (Try.prog.info? 21).map (fun i => (i.zero, i.size, i.bytes)) = some (some (.int .i32 0), 1, 4) := by kernel_rfl
theorem Try.size21m : (Try.prog.info? 21).map (·.size) = some 1 := by kernel_rfl

theorem preB_swap (W : Nat) (C D A : Nat → Int) (u v : Nat) : preB W C A D v u = preB W C D A u v := by
  rw [preB_part, preB_part, Bool.or_comm]

set_option maxHeartbeats 3200000 in
set_option maxRecDepth 1000000 in
theorem mir_main (ca : Option Addr) (cl cc : Nat) (a1 : Int) (da : Option Addr) (dl dc : Nat) (aa : Option Addr) (al ac : Nat) (u v : Int) (C D A : Nat → Int) (w : World)
    (hu2 : u ≤ 2147483647) (hv2 : v ≤ 2147483647) (hcl : cl ≤ 65536) (hdl : dl ≤ 32768) (hal : al ≤ 32768)
    (hC : ∀ i, i < cl → ∃ x, ca = some x ∧ w.cell? (x.add i) = some (.int .i32 (C i)) ∧ -2147483648 ≤ C i ∧ C i ≤ 2147483647)
    (hD : ∀ i, i < dl → ∃ x, da = some x ∧ w.cell? (x.add i) = some (.int .u64 (D i)) ∧ 0 ≤ D i ∧ D i < 18446744073709551616)
    (hA : ∀ i, i < al → ∃ x, aa = some x ∧ w.cell? (x.add i) = some (.int .u64 (A i)) ∧ 0 ≤ A i ∧ A i < 18446744073709551616) :
    Calls Try.prog 7 #[.slice ca cl cc, .int .i64 a1, .slice da dl dc, .slice aa al ac, .int .i32 u, .int .i32 v] w fun e w' => e = .returned (.bool true) ∧ Below w.heap.size w w' := by
  have hd : decide (cl + dl + al ≤ 1048576) = true := decide_eq_true (by omega)
  have hclz : (cl : Int) ≤ 65536 := by omega
  have hdlz : (dl : Int) ≤ 32768 := by omega
  have halz : (al : Int) ≤ 32768 := by omega
  have k1 : decide ((65536 : Int) < (cl : Int)) = false := decide_eq_false (by omega)
  have k2 : decide ((32768 : Int) < (dl : Int)) = false := decide_eq_false (by omega)
  have k3 : decide ((32768 : Int) < (al : Int)) = false := decide_eq_false (by omega)
  have HC : Aside (∀ i, i < cl → ∃ x, ca = some x ∧ w.cell? (x.add i) = some (.int .i32 (C i)) ∧ -2147483648 ≤ C i ∧ C i ≤ 2147483647) := hC
  have HD : Aside (∀ i, i < dl → ∃ x, da = some x ∧ w.cell? (x.add i) = some (.int .u64 (D i)) ∧ 0 ≤ D i ∧ D i < 18446744073709551616) := hD
  have HA : Aside (∀ i, i < al → ∃ x, aa = some x ∧ w.cell? (x.add i) = some (.int .u64 (A i)) ∧ 0 ≤ A i ∧ A i < 18446744073709551616) := hA
  clear hC hD hA hcl hdl hal
  go_enter Try.func7, Try.ntmps7
  go_wp2_with fail
  refine (bytes20 _ _ _ _ _ _ _ _ _ _ _ _ _ (by omega) (by omega) (by omega)).mono ?_
  rintro e w' ⟨rfl, rfl⟩
  rw [hd]
  clear hd
  go_wp2_with fail
  refine (fits17 _ _ _ _ _ _ _ _ _ _ _ _ C _ hu2 hv2 hclz hdlz halz HC.out).mono ?_
  rintro e w' ⟨⟨r, rfl, hF⟩, rfl⟩
  cases r
  · clear hF
    go_wp2
    go_ret
    exact ⟨rfl, Below.refl _ _⟩
  have hF := hF rfl
  obtain ⟨W, rfl⟩ : ∃ W : Nat, a1 = (W : Int) := ⟨a1.toNat, by have := hF.lo; omega⟩
  obtain ⟨u, rfl⟩ : ∃ k : Nat, u = (k : Int) := ⟨u.toNat, by have := hF.u0; omega⟩
  obtain ⟨v, rfl⟩ : ∃ k : Nat, v = (k : Int) := ⟨v.toNat, by have := hF.v0; omega⟩
  obtain rfl : dl = al := by have := hF.dn; have := hF.an; omega
  have K : Nums cl dl W u v C := by
    have e1 := hF.dn
    rw [← Int.natCast_mul] at e1
    exact ⟨by omega, by omega, by omega, by have := hF.u1; omega, by have := hF.v1; omega, by simpa using hF.cu, by simpa using hF.cv, by have := hF.hi; omega, by have := hF.lo; omega⟩
  have hW0 : (W : Int) ≤ 16384 := hF.hi
  clear hF
  have hpos : 0 < dl := by have := idx_lt (k := 0) K.hn K.hu (by have := K.hW1; omega); omega
  obtain ⟨x0, rfl, _, _, _⟩ := HC.out u K.hu
  obtain ⟨x2, rfl, _, _, _⟩ := HD.out 0 hpos
  obtain ⟨x3, rfl, _, _, _⟩ := HA.out 0 hpos
  have C0 : Aside (∀ W', Below w.heap.size w W' → ∀ i, i < cl → W'.cell? (x0.add i) = some (.int .i32 (C i))) := fun W' hB i hi => by
    obtain ⟨x, e, h, _⟩ := HC.out i hi
    cases e
    rw [hB.cell (p := x0.add i) (World.block_lt_of_cell? _ _ h)]; exact h
  have D0 : Aside (∀ W', Below w.heap.size w W' → ∀ i, i < dl → W'.cell? (x2.add i) = some (.int .u64 (D i))) := fun W' hB i hi => by
    obtain ⟨x, e, h, _⟩ := HD.out i hi
    cases e
    rw [hB.cell (p := x2.add i) (World.block_lt_of_cell? _ _ h)]; exact h
  have A0 : Aside (∀ W', Below w.heap.size w W' → ∀ i, i < dl → W'.cell? (x3.add i) = some (.int .u64 (A i))) := fun W' hB i hi => by
    obtain ⟨x, e, h, _⟩ := HA.out i hi
    cases e
    rw [hB.cell (p := x3.add i) (World.block_lt_of_cell? _ _ h)]; exact h
  have DR : Aside (∀ i, i < dl → 0 ≤ D i ∧ D i < 18446744073709551616) := fun i hi => by obtain ⟨_, _, _, h⟩ := HD.out i hi; exact h
  have AR : Aside (∀ i, i < dl → 0 ≤ A i ∧ A i < 18446744073709551616) := fun i hi => by obtain ⟨_, _, _, h⟩ := HA.out i hi; exact h
  have hmk := run_make_row' (P := Try.prog) 26 21 (.int .i32 0) 4 Try.underlying26 Try.info21m rfl .i64 .i64 cl (by omega) (by omega)
  have hne := fun (w : World) => run_neq_slice_nil_any (P := Try.prog) w 26 21 (some x0) cl cc 0 0 Try.underlying26
  have lu : (u : Int) < (cl : Int) := by have := K.hu; omega
  have lv : (v : Int) < (cl : Int) := by have := K.hv; omega
  clear HC HD HA hu2 hv2 k1 k2 k3
  go_wp2_with (refine wpList_copy_ints rfl (.tmp 56) (.tmp 57) 26 26 rfl 21 Try.underlying26 Try.size21m _ cl _ _ x0 rfl rfl .i32 21 _ (World.rowIs_made _ _ _ _) C (C0.out _ ((Below.refl _ _).alloc (Nat.le_refl _) _)) ?_; intro w2 r2 B2)
  have B2' : Below w.heap.size w w2 := ((Below.refl _ _).alloc (Nat.le_refl _) _).trans B2
  refine (clone18 x2 dl dc D w2 hdlz (D0.out _ B2')).mono ?_
  rintro e w3 ⟨rfl, r3, B3⟩
  have z2 : w.heap.size < w2.heap.size := r2.lt
  have B3' : Below w.heap.size w w3 := B2'.trans (B3.mono (by omega))
  have q2 := row_later r2 B3 r2.lt
  clear B2 B3 B2' r2 hmk hne
  go_wp2_with fail
  refine (clone18 x3 dl ac A w3 hdlz (A0.out _ B3')).mono ?_
  rintro e w4 ⟨rfl, r4, B4⟩
  have z3 : w2.heap.size < w3.heap.size := r3.lt
  have m0 : Mem3 w.heap.size w.heap.size w2.heap.size w3.heap.size w w4 cl dl C D A := ⟨row_later q2 B4 q2.lt, row_later r3 B4 r3.lt, r4, B3'.trans (B4.mono (by omega))⟩
  have t1 := m0.rc.cell K.hu
  have t2 := m0.rc.cell K.hv
  obtain ⟨cu, hcu⟩ : ∃ c, C u = c := ⟨_, rfl⟩
  obtain ⟨cv, hcv⟩ : ∃ c, C v = c := ⟨_, rfl⟩
  simp only [hcu] at t1
  simp only [hcv] at t2
  have HU : Aside (C u = cu ∧ cu < 64 * (W : Int)) := ⟨hcu, by rw [← hcu]; exact K.hcu⟩
  have HV : Aside (C v = cv ∧ cv < 64 * (W : Int)) := ⟨hcv, by rw [← hcv]; exact K.hcv⟩
  clear hcu hcv
  clear q2 r3 r4 B3' B4 C0 D0 A0
  go_wp2_with fail
  refine (m0.prec K (Nat.le_refl _) _ _ _).mono ?_
  rintro e w5 ⟨rfl, m1⟩
  clear m0 t1 t2
  go_wp2_with fail
  refine (m1.prec' K.swap (Nat.le_refl _) _ _ _).mono ?_
  rintro e w6 ⟨rfl, m2⟩
  rw [preB_swap]
  clear m1
  by_cases hu0 : cu < 0
  · by_cases hv0 : cv < 0
    · -- no column at either node
      have e0 : ∀ D A, preB W C D A u v = false := fun D A => by
        have h1 : ¬ (0 ≤ C u) := by rw [HU.out.1]; omega
        have h2 : ¬ (0 ≤ C v) := by rw [HV.out.1]; omega
        simp [preB, h1, h2]
      rw [e0]
      go_wp2
      go_loopg [20] dl (fun g s20 wr => ∃ k : Nat, k ≤ dl ∧ g = dl - k ∧ s20 = .int .i64 k ∧ ∃ D', Mem3 w.heap.size w.heap.size w2.heap.size w3.heap.size w wr cl dl C D' A)
      case atStart => exact ⟨0, Nat.zero_le _, rfl, rfl, D, m2⟩
      case round =>
        obtain ⟨k, hk, rfl, rfl, D', m3⟩ := hrel
        clear m2
        by_cases hkn : k < dl
        · have t1 := m3.rd.cell hkn
          have t2 := m3.rd.frozen k
          go_wp2
          go_roundg (dl - (k + 1))
          case measure => omega
          case rel => exact ⟨k + 1, hkn, rfl, by go_num, _, m3.setD z2 z3 (Nat.le_refl _) k _⟩
        · clear hk
          go_wp2
          go_loopg [21] dl (fun g s21 wr => ∃ k : Nat, k ≤ dl ∧ g = dl - k ∧ s21 = .int .i64 k ∧ ∃ A', Mem3 w.heap.size w.heap.size w2.heap.size w3.heap.size w wr cl dl C D' A')
          case atStart => exact ⟨0, Nat.zero_le _, rfl, rfl, A, m3⟩
          case round =>
            obtain ⟨k', hk', rfl, rfl, A', m4⟩ := hrel
            clear m3
            by_cases hkn' : k' < dl
            · have t1 := m4.ra.cell hkn'
              have t2 := m4.ra.frozen k'
              go_wp2
              go_roundg (dl - (k' + 1))
              case measure => omega
              case rel => exact ⟨k' + 1, hkn', rfl, by go_num, _, m4.setA z2 z3 (Nat.le_refl _) k' _⟩
            · clear hk'
              go_wp2_with fail
              refine (m4.prec K (Nat.le_refl _) _ _ _).mono ?_
              rintro e w7 ⟨rfl, m5⟩
              rw [e0]
              clear m4
              go_wp2_with fail
              refine (m5.prec' K.swap (Nat.le_refl _) _ _ _).mono ?_
              rintro e w8 ⟨rfl, m6⟩
              rw [preB_swap, e0]
              clear m5 e0
              go_wp2
              go_ret
              exact ⟨rfl, m6.old⟩
    · -- v's column is put in u's row of descendants
      obtain ⟨kv, rfl⟩ : ∃ k : Nat, cv = (k : Int) := ⟨cv.toNat, by omega⟩
      have hkv : kv ≤ 2147483647 := by have := HV.out.2; omega
      have hi : u * W + kv / 64 < dl := idx_lt K.hn K.hu (by have := HV.out.2; omega)
      obtain ⟨pu, hpu⟩ : ∃ p : Nat, u * W = p := ⟨_, rfl⟩
      have hp : (u : Int) * (W : Int) = (pu : Int) := by rw [← Int.natCast_mul, hpu]
      have hi2 : (pu : Int) ≤ 32768 := by omega
      have t1 := m2.rd.cell hi
      have t2 := m2.rd.frozen (u * W + kv / 64)
      have m3 := m2.setD z2 z3 (Nat.le_refl _) (u * W + kv / 64) (bits BinOp.or IntKind.u64 (D (u * W + kv / 64)) (M kv))
      have E : Aside (preB W C (upd D (u * W + kv / 64) (bits BinOp.or IntKind.u64 (D (u * W + kv / 64)) (M kv))) A u v = true) := by
        have h1 := DR.out _ hi
        have h2 : part W C (upd D (u * W + kv / 64) (bits BinOp.or IntKind.u64 (D (u * W + kv / 64)) (M kv))) u v = true := by
          simp [part, HV.out.1, upd_same, hasB_set _ kv h1.1 h1.2]
        show preB W C _ A u v = true
        rw [preB_part, h2, Bool.true_or]
      rw [hpu] at hi t1 t2 m3 E
      have hi3 : ((pu : Int) + (kv : Int) / 64) < (dl : Int) := by omega
      obtain ⟨z, hz⟩ : ∃ z, D (pu + kv / 64) = z := ⟨_, rfl⟩
      simp only [hz] at t1 m3 E
      clear hpu hz m2 hi
      go_wp2_with fail
      refine (m3.prec K (Nat.le_refl _) _ _ _).mono ?_
      rintro e w7 ⟨rfl, m4⟩
      rw [E.out]
      clear m3 t1 t2
      go_wp2_with fail
      refine (m4.prec' K.swap (Nat.le_refl _) _ _ _).mono ?_
      rintro e w8 ⟨rfl, m5⟩
      rw [preB_swap, E.out]
      clear m4
      go_wp2
      go_ret
      exact ⟨rfl, m5.old⟩
  · -- u's column is put in v's row of ancestors
    obtain ⟨ku, rfl⟩ : ∃ k : Nat, cu = (k : Int) := ⟨cu.toNat, by omega⟩
    have hku : ku ≤ 2147483647 := by have := HU.out.2; omega
    have hi : v * W + ku / 64 < dl := idx_lt K.hn K.hv (by have := HU.out.2; omega)
    obtain ⟨pv, hpv⟩ : ∃ p : Nat, v * W = p := ⟨_, rfl⟩
    have hp : (v : Int) * (W : Int) = (pv : Int) := by rw [← Int.natCast_mul, hpv]
    have hi2 : (pv : Int) ≤ 32768 := by omega
    have t1 := m2.ra.cell hi
    have t2 := m2.ra.frozen (v * W + ku / 64)
    have m3 := m2.setA z2 z3 (Nat.le_refl _) (v * W + ku / 64) (bits BinOp.or IntKind.u64 (A (v * W + ku / 64)) (M ku))
    have E : Aside (preB W C D (upd A (v * W + ku / 64) (bits BinOp.or IntKind.u64 (A (v * W + ku / 64)) (M ku))) u v = true) := by
      have h1 := AR.out _ hi
      have h2 : part W C (upd A (v * W + ku / 64) (bits BinOp.or IntKind.u64 (A (v * W + ku / 64)) (M ku))) v u = true := by
        simp [part, HU.out.1, upd_same, hasB_set _ ku h1.1 h1.2]
      show preB W C D _ u v = true
      rw [preB_part, h2, Bool.or_true]
    rw [hpv] at hi t1 t2 m3 E
    have hi3 : ((pv : Int) + (ku : Int) / 64) < (dl : Int) := by omega
    obtain ⟨z, hz⟩ : ∃ z, A (pv + ku / 64) = z := ⟨_, rfl⟩
    simp only [hz] at t1 m3 E
    clear hpv hz m2 hi
    go_wp2_with fail
    refine (m3.prec K (Nat.le_refl _) _ _ _).mono ?_
    rintro e w7 ⟨rfl, m4⟩
    rw [E.out]
    clear m3 t1 t2
    go_wp2_with fail
    refine (m4.prec' K.swap (Nat.le_refl _) _ _ _).mono ?_
    rintro e w8 ⟨rfl, m5⟩
    rw [preB_swap, E.out]
    clear m4
    go_wp2
    go_ret
    exact ⟨rfl, m5.old⟩
end Go.Proofs.Qxb6613590a
