import Derived.Test.Qxb6613590aPrecMem
import Derived.Deep.CutRange
import Derived.Deep.DeepCutAuto
import Derived.Deep.Light
namespace Go.Proofs.Qxb6613590a
open Go.RowKit

theorem Try.info21' : (Try.prog.info? 21).map (fun i => (i.zero, i.size, i.bytes)) = some (some (.int .i32 0), 1, 4) := by kernel_rfl
theorem Try.size21' : (Try.prog.info? 21).map (·.size) = some 1 := by kernel_rfl

set_option maxHeartbeats 3200000 in
set_option maxRecDepth 1000000 in
theorem or_main (ca : Option Addr) (cl cc : Nat) (a1 : Int) (da : Option Addr) (dl dc : Nat) (aa : Option Addr) (al ac : Nat) (u v : Int) (C D A : Nat → Int) (w : World)
    (hu2 : u ≤ 2147483647) (hv2 : v ≤ 2147483647) (hcl : cl ≤ 65536) (hdl : dl ≤ 32768) (hal : al ≤ 32768)
    (hC : ∀ i, i < cl → ∃ x, ca = some x ∧ w.cell? (x.add i) = some (.int .i32 (C i)) ∧ -2147483648 ≤ C i ∧ C i ≤ 2147483647)
    (hD : ∀ i, i < dl → ∃ x, da = some x ∧ w.cell? (x.add i) = some (.int .u64 (D i)) ∧ 0 ≤ D i ∧ D i < 18446744073709551616)
    (hA : ∀ i, i < al → ∃ x, aa = some x ∧ w.cell? (x.add i) = some (.int .u64 (A i)) ∧ 0 ≤ A i ∧ A i < 18446744073709551616) :
    Calls Try.prog 6 #[.slice ca cl cc, .int .i64 a1, .slice da dl dc, .slice aa al ac, .int .i32 u, .int .i32 v] w fun e w' => e = .returned (.bool true) ∧ Below w.heap.size w w' := by
  have hd : decide (cl + dl + al ≤ 1048576) = true := decide_eq_true (by omega)
  have hclz : (cl : Int) ≤ 65536 := by omega
  have hdlz : (dl : Int) ≤ 32768 := by omega
  have halz : (al : Int) ≤ 32768 := by omega
  have k1 : decide ((65536 : Int) < (cl : Int)) = false := decide_eq_false (by omega)
  have k2 : decide ((32768 : Int) < (dl : Int)) = false := decide_eq_false (by omega)
  have k3 : decide ((32768 : Int) < (al : Int)) = false := decide_eq_false (by omega)
  have HC : Aside (∀ i, i < cl → ∃ x, ca = some x ∧ w.cell? (x.add i) = some (.int .i32 (C i)) ∧ -2147483648 ≤ C i ∧ C i ≤ 2147483647) := hC
  have HD : Aside (∀ i, i < dl → ∃ x, da = some x ∧ w.cell? (x.add i) = some (.int .u64 (D i)) ∧ 0 ≤ D i ∧ D i < 18446744073709551616) := hD
  have HA : Aside (∀ i, i < al → ∃ x, aa = some x ∧ w.cell? (x.add i) = some (.int .u64 (A i)) ∧ 0 ≤ A i ∧ A i < 18446744073709551616) := hA
  clear hC hD hA hcl hdl hal
  go_enter Try.func6, Try.ntmps6
  go_wp2_with fail
  refine (bytes16 _ _ _ _ _ _ _ _ _ _ _ _ _ (by omega) (by omega) (by omega)).mono ?_
  rintro e w' ⟨rfl, rfl⟩
  rw [hd]
  clear hd
  go_wp2_with fail
  refine (fits17 _ _ _ _ _ _ _ _ _ _ _ _ C _ hu2 hv2 hclz hdlz halz HC.out).mono ?_
  rintro e w' ⟨⟨r, rfl, hF⟩, rfl⟩
  cases r
  · clear hF
    go_wp2
    go_ret
    exact ⟨rfl, Below.refl _ _⟩
  have hF := hF rfl
  obtain ⟨W, rfl⟩ : ∃ W : Nat, a1 = (W : Int) := ⟨a1.toNat, by have := hF.lo; omega⟩
  obtain ⟨u, rfl⟩ : ∃ k : Nat, u = (k : Int) := ⟨u.toNat, by have := hF.u0; omega⟩
  obtain ⟨v, rfl⟩ : ∃ k : Nat, v = (k : Int) := ⟨v.toNat, by have := hF.v0; omega⟩
  obtain rfl : dl = al := by have := hF.dn; have := hF.an; omega
  have K : Nums cl dl W u v C := by
    have e1 := hF.dn
    rw [← Int.natCast_mul] at e1
    exact ⟨by omega, by omega, by omega, by have := hF.u1; omega, by have := hF.v1; omega, by simpa using hF.cu, by simpa using hF.cv, by have := hF.hi; omega, by have := hF.lo; omega⟩
  have hW0 : (W : Int) ≤ 16384 := hF.hi
  clear hF
  have hpos : 0 < dl := by have := idx_lt (k := 0) K.hn K.hu (by have := K.hW1; omega); omega
  obtain ⟨x0, rfl, _, _, _⟩ := HC.out u K.hu
  obtain ⟨x2, rfl, _, _, _⟩ := HD.out 0 hpos
  obtain ⟨x3, rfl, _, _, _⟩ := HA.out 0 hpos
  have C0 : Aside (∀ W', Below w.heap.size w W' → ∀ i, i < cl → W'.cell? (x0.add i) = some (.int .i32 (C i))) := fun W' hB i hi => by
    obtain ⟨x, e, h, _⟩ := HC.out i hi
    cases e
    rw [hB.cell (p := x0.add i) (World.block_lt_of_cell? _ _ h)]; exact h
  have D0 : Aside (∀ W', Below w.heap.size w W' → ∀ i, i < dl → W'.cell? (x2.add i) = some (.int .u64 (D i))) := fun W' hB i hi => by
    obtain ⟨x, e, h, _⟩ := HD.out i hi
    cases e
    rw [hB.cell (p := x2.add i) (World.block_lt_of_cell? _ _ h)]; exact h
  have A0 : Aside (∀ W', Below w.heap.size w W' → ∀ i, i < dl → W'.cell? (x3.add i) = some (.int .u64 (A i))) := fun W' hB i hi => by
    obtain ⟨x, e, h, _⟩ := HA.out i hi
    cases e
    rw [hB.cell (p := x3.add i) (World.block_lt_of_cell? _ _ h)]; exact h
  have DR : Aside (∀ i, i < dl → 0 ≤ D i ∧ D i < 18446744073709551616) := fun i hi => by obtain ⟨_, _, _, h⟩ := HD.out i hi; exact h
  have AR : Aside (∀ i, i < dl → 0 ≤ A i ∧ A i < 18446744073709551616) := fun i hi => by obtain ⟨_, _, _, h⟩ := HA.out i hi; exact h
  have hmk := run_make_row' (P := Try.prog) 26 21 (.int .i32 0) 4 Try.underlying26 Try.info21' rfl .i64 .i64 cl (by omega) (by omega)
  have hne := fun (w : World) => run_neq_slice_nil_any (P := Try.prog) w 26 21 (some x0) cl cc 0 0 Try.underlying26
  have lu : (u : Int) < (cl : Int) := by have := K.hu; omega
  have lv : (v : Int) < (cl : Int) := by have := K.hv; omega
  clear HC HD HA hu2 hv2 k1 k2 k3
  go_wp2_with (refine wpList_copy_ints rfl (.tmp 66) (.tmp 67) 26 26 rfl 21 Try.underlying26 Try.size21' _ cl _ _ x0 rfl rfl .i32 21 _ (World.rowIs_made _ _ _ _) C (C0.out _ ((Below.refl _ _).alloc (Nat.le_refl _) _)) ?_; intro w2 r2 B2)
  have B2' : Below w.heap.size w w2 := ((Below.refl _ _).alloc (Nat.le_refl _) _).trans B2
  refine (clone18 x2 dl dc D w2 hdlz (D0.out _ B2')).mono ?_
  rintro e w3 ⟨rfl, r3, B3⟩
  have z2 : w.heap.size < w2.heap.size := r2.lt
  have B3' : Below w.heap.size w w3 := B2'.trans (B3.mono (by omega))
  have q2 := row_later r2 B3 r2.lt
  clear B2 B3 B2' r2 hmk hne
  go_wp2_with fail
  refine (clone18 x3 dl ac A w3 hdlz (A0.out _ B3')).mono ?_
  rintro e w4 ⟨rfl, r4, B4⟩
  have z3 : w2.heap.size < w3.heap.size := r3.lt
  have m0 : Mem3 w.heap.size w.heap.size w2.heap.size w3.heap.size w w4 cl dl C D A := ⟨row_later q2 B4 q2.lt, row_later r3 B4 r3.lt, r4, B3'.trans (B4.mono (by omega))⟩
  have t1 := m0.rc.cell K.hu
  have t2 := m0.rc.cell K.hv
  obtain ⟨cu, hcu⟩ : ∃ c, C u = c := ⟨_, rfl⟩
  obtain ⟨cv, hcv⟩ : ∃ c, C v = c := ⟨_, rfl⟩
  simp only [hcu] at t1
  simp only [hcv] at t2
  have HU : Aside (C u = cu ∧ cu < 64 * (W : Int)) := ⟨hcu, by rw [← hcu]; exact K.hcu⟩
  have HV : Aside (C v = cv ∧ cv < 64 * (W : Int)) := ⟨hcv, by rw [← hcv]; exact K.hcv⟩
  clear hcu hcv
  clear q2 r3 r4 B3' B4 C0 D0 A0
  go_wp2_with fail
  refine (m0.prec K (Nat.le_refl _) _ _ _).mono ?_
  rintro e w5 ⟨rfl, m1⟩
  clear m0 t1 t2
  by_cases hnn : cu < 0 ∧ cv < 0
  · -- no column at either node
    obtain ⟨n1, n2⟩ := hnn
    have e0 : ∀ D A, preB W C D A u v = false := fun D A => by
      have h1 : ¬ (0 ≤ C u) := by rw [HU.out.1]; omega
      have h2 : ¬ (0 ≤ C v) := by rw [HV.out.1]; omega
      simp [preB, h1, h2]
    rw [e0]
    go_wp2
    go_loopg [19] dl (fun g s19 wr => ∃ k : Nat, k ≤ dl ∧ g = dl - k ∧ s19 = .int .i64 k ∧ ∃ D', Mem3 w.heap.size w.heap.size w2.heap.size w3.heap.size w wr cl dl C D' A)
    case atStart => exact ⟨0, Nat.zero_le _, rfl, rfl, D, m1⟩
    case round =>
      obtain ⟨k, hk, rfl, rfl, D', m2⟩ := hrel
      clear m1
      by_cases hkn : k < dl
      · have t1 := m2.rd.cell hkn
        have t2 := m2.rd.frozen k
        go_wp2
        go_roundg (dl - (k + 1))
        case measure => omega
        case rel => exact ⟨k + 1, hkn, rfl, by go_num, _, m2.setD z2 z3 (Nat.le_refl _) k _⟩
      · clear hk
        go_wp2
        go_loopg [20] dl (fun g s20 wr => ∃ k : Nat, k ≤ dl ∧ g = dl - k ∧ s20 = .int .i64 k ∧ ∃ A', Mem3 w.heap.size w.heap.size w2.heap.size w3.heap.size w wr cl dl C D' A')
        case atStart => exact ⟨0, Nat.zero_le _, rfl, rfl, A, m2⟩
        case round =>
          obtain ⟨k', hk', rfl, rfl, A', m3⟩ := hrel
          clear m2
          by_cases hkn' : k' < dl
          · have t1 := m3.ra.cell hkn'
            have t2 := m3.ra.frozen k'
            go_wp2
            go_roundg (dl - (k' + 1))
            case measure => omega
            case rel => exact ⟨k' + 1, hkn', rfl, by go_num, _, m3.setA z2 z3 (Nat.le_refl _) k' _⟩
          · clear hk'
            go_wp2_with fail
            refine (m3.prec K (Nat.le_refl _) _ _ _).mono ?_
            rintro e w6 ⟨rfl, m4⟩
            rw [e0]
            clear e0 m3
            go_wp2
            go_ret
            exact ⟨rfl, m4.old⟩
  · go_upto_region 16 with fail
    go_cut [94] from 89 to 93 (fun s94 wx => s94 = .bool false ∧ w5 = wx)
    case first =>
      by_cases hu0 : cu < 0
      · have hv0 : ¬ cv < 0 := fun h => hnn ⟨hu0, h⟩
        have b1 : decide (cu < 0) = true := decide_eq_true hu0
        have b2 : decide (cv < 0) = false := decide_eq_false hv0
        go_wp2_with fail
        go_meet
        exact ⟨rfl, rfl⟩
      · have b1 : decide (cu < 0) = false := decide_eq_false hu0
        go_wp2_with fail
        go_meet
        exact ⟨rfl, rfl⟩
    case rest =>
      obtain ⟨rfl, rfl⟩ := hcut
      clear hnn
      go_upto_if 126 with fail
      go_cut [21, 23] from 127 to 138 (fun s21 s23 wx => ∃ (di : Nat) (dm : Int), s21 = .int .i64 (di : Int) ∧ s23 = .int .u64 dm ∧ Sel dl W C D u v di dm ∧ w5 = wx)
      case first =>
        by_cases hv0 : cv < 0
        · go_wp2_with fail
          go_meet
          exact ⟨0, 0, rfl, rfl, Sel.idle hpos (by rw [HV.out.1]; omega), rfl⟩
        · obtain ⟨kv, rfl⟩ : ∃ k : Nat, cv = (k : Int) := ⟨cv.toNat, by omega⟩
          have hkv : kv ≤ 2147483647 := by have := HV.out.2; omega
          have hi : u * W + kv / 64 < dl := idx_lt K.hn K.hu (by have := HV.out.2; omega)
          obtain ⟨pu, hpu⟩ : ∃ p : Nat, u * W = p := ⟨_, rfl⟩
          have hp : (u : Int) * (W : Int) = (pu : Int) := by rw [← Int.natCast_mul, hpu]
          have HP : Aside (u * W = pu) := hpu
          have hi2 : (pu : Int) ≤ 32768 := by omega
          have HI : Aside (u * W + kv / 64 < dl) := hi
          clear hi hpu
          go_wp2_with fail
          go_meet
          exact ⟨u * W + kv / 64, M kv, congrArg (Value.int .i64) (by rw [HP.out]; omega), rfl, Sel.bit HV.out.1 HI.out (DR.out _ HI.out), rfl⟩
      case rest =>
        obtain ⟨di, dm, rfl, rfl, sd, rfl⟩ := hcut
        have SD : Aside (Sel dl W C D u v di dm) := sd
        clear sd
        go_upto_if 140 with fail
        go_cut [22, 24] from 141 to 152 (fun s22 s24 wx => ∃ (ai : Nat) (am : Int), s22 = .int .i64 (ai : Int) ∧ s24 = .int .u64 am ∧ Sel dl W C A v u ai am ∧ w5 = wx)
        case first =>
          by_cases hu0 : cu < 0
          · go_wp2_with fail
            go_meet
            exact ⟨0, 0, rfl, rfl, Sel.idle hpos (by rw [HU.out.1]; omega), rfl⟩
          · obtain ⟨ku, rfl⟩ : ∃ k : Nat, cu = (k : Int) := ⟨cu.toNat, by omega⟩
            have hku : ku ≤ 2147483647 := by have := HU.out.2; omega
            have hi : v * W + ku / 64 < dl := idx_lt K.hn K.hv (by have := HU.out.2; omega)
            obtain ⟨pv, hpv⟩ : ∃ p : Nat, v * W = p := ⟨_, rfl⟩
            have hp : (v : Int) * (W : Int) = (pv : Int) := by rw [← Int.natCast_mul, hpv]
            have HP : Aside (v * W = pv) := hpv
            have hi2 : (pv : Int) ≤ 32768 := by omega
            have HI : Aside (v * W + ku / 64 < dl) := hi
            clear hi hpv
            go_wp2_with fail
            go_meet
            exact ⟨v * W + ku / 64, M ku, congrArg (Value.int .i64) (by rw [HP.out]; omega), rfl, Sel.bit HU.out.1 HI.out (AR.out _ HI.out), rfl⟩
        case rest =>
          obtain ⟨ai, am, rfl, rfl, sa, rfl⟩ := hcut
          have SA : Aside (Sel dl W C A v u ai am) := sa
          clear sa
          have ld : (di : Int) < (dl : Int) := by have := SD.out.lt; omega
          have la : (ai : Int) < (dl : Int) := by have := SA.out.lt; omega
          obtain ⟨p, hp⟩ : ∃ p, part W C D u v = p := ⟨_, rfl⟩
          obtain ⟨q, hq⟩ : ∃ q, part W C A v u = q := ⟨_, rfl⟩
          rw [preB_part, hp, hq]
          -- a[ai] = saveA &^ am
          have t1 := m1.ra.cell SA.out.lt
          have t2 := m1.ra.frozen ai
          have m2 := m1.setA z2 z3 (Nat.le_refl _) ai (bits BinOp.andNot IntKind.u64 (A ai) am)
          have PQ : Aside (part W C D u v = p ∧ part W C A v u = q) := ⟨hp, hq⟩
          clear hp hq m1
          go_wp2_with fail
          refine (m2.prec K (Nat.le_refl _) _ _ _).mono ?_
          rintro e w6 ⟨rfl, m3⟩
          rw [show preB W C D (upd A ai (bits BinOp.andNot IntKind.u64 (A ai) am)) u v = p by rw [preB_part, SA.out.off, PQ.out.1, Bool.or_false]]
          clear m2 t1 t2
          -- a[ai] = saveA; saveD; d[di] = saveD &^ dm
          have t1 := m3.ra.cell SA.out.lt
          have t2 := m3.ra.frozen ai
          have m4 := m3.setA z2 z3 (Nat.le_refl _) ai (A ai)
          rw [upd_back] at m4
          have t3 := m4.rd.cell SD.out.lt
          have t4 := m4.rd.frozen di
          have m5 := m4.setD z2 z3 (Nat.le_refl _) di (bits BinOp.andNot IntKind.u64 (D di) dm)
          clear m3 m4
          go_wp2_with fail
          refine (m5.prec K (Nat.le_refl _) _ _ _).mono ?_
          rintro e w7 ⟨rfl, m6⟩
          rw [show preB W C (upd D di (bits BinOp.andNot IntKind.u64 (D di) dm)) A u v = q by rw [preB_part, SD.out.off, PQ.out.2, Bool.false_or]]
          clear m5 t1 t2 t3 t4
          -- a[ai] = saveA &^ am
          have t1 := m6.ra.cell SA.out.lt
          have t2 := m6.ra.frozen ai
          have m7 := m6.setA z2 z3 (Nat.le_refl _) ai (bits BinOp.andNot IntKind.u64 (A ai) am)
          clear m6
          go_wp2_with fail
          refine (m7.prec K (Nat.le_refl _) _ _ _).mono ?_
          rintro e w8 ⟨rfl, m8⟩
          rw [show preB W C (upd D di (bits BinOp.andNot IntKind.u64 (D di) dm)) (upd A ai (bits BinOp.andNot IntKind.u64 (A ai) am)) u v = false by rw [preB_part, SD.out.off, SA.out.off, Bool.or_false]]
          clear m7 t1 t2
          -- d[di] = saveD &^ dm | dm
          have t1 := m8.rd.cell SD.out.lt
          have t2 := m8.rd.frozen di
          have m9 := m8.setD z2 z3 (Nat.le_refl _) di (bits BinOp.or IntKind.u64 (bits BinOp.andNot IntKind.u64 (D di) dm) dm)
          rw [upd_upd] at m9
          clear m8
          go_wp2_with fail
          refine (m9.prec K (Nat.le_refl _) _ _ _).mono ?_
          rintro e w9 ⟨rfl, m10⟩
          rw [show preB W C (upd D di (bits BinOp.or IntKind.u64 (bits BinOp.andNot IntKind.u64 (D di) dm) dm)) (upd A ai (bits BinOp.andNot IntKind.u64 (A ai) am)) u v = decide (0 ≤ cv) by rw [preB_part, SD.out.on, SA.out.off, Bool.or_false, HV.out.1]]
          clear m9 t1 t2
          -- d[di] = saveD &^ dm; a[ai] = saveA &^ am | am
          have t1 := m10.rd.cell SD.out.lt
          have t2 := m10.rd.frozen di
          have m11 := m10.setD z2 z3 (Nat.le_refl _) di (bits BinOp.andNot IntKind.u64 (D di) dm)
          rw [upd_upd] at m11
          have t3 := m11.ra.cell SA.out.lt
          have t4 := m11.ra.frozen ai
          have m12 := m11.setA z2 z3 (Nat.le_refl _) ai (bits BinOp.or IntKind.u64 (bits BinOp.andNot IntKind.u64 (A ai) am) am)
          rw [upd_upd] at m12
          clear m10 m11
          go_wp2_with fail
          refine (m12.prec K (Nat.le_refl _) _ _ _).mono ?_
          rintro e w10 ⟨rfl, m13⟩
          rw [show preB W C (upd D di (bits BinOp.andNot IntKind.u64 (D di) dm)) (upd A ai (bits BinOp.or IntKind.u64 (bits BinOp.andNot IntKind.u64 (A ai) am) am)) u v = decide (0 ≤ cu) by rw [preB_part, SD.out.off, SA.out.on, Bool.false_or, HU.out.1]]
          clear m12 t1 t2 t3 t4
          go_upto_region 50 with fail
          have hO := m13.old
          clear m13 PQ SD SA K HU HV DR AR
          by_cases hu0 : cu < 0
          · have d1 : decide (cu < 0) = true := decide_eq_true hu0
            have d2 : decide (0 ≤ cu) = false := decide_eq_false (by omega)
            by_cases hv0 : cv < 0
            · have d3 : decide (cv < 0) = true := decide_eq_true hv0
              have d4 : decide (0 ≤ cv) = false := decide_eq_false (by omega)
              cases p <;> cases q <;> (go_wp2; go_ret; exact ⟨rfl, hO⟩)
            · have d3 : decide (cv < 0) = false := decide_eq_false hv0
              have d4 : decide (0 ≤ cv) = true := decide_eq_true (by omega)
              cases p <;> cases q <;> (go_wp2; go_ret; exact ⟨rfl, hO⟩)
          · have d1 : decide (cu < 0) = false := decide_eq_false hu0
            have d2 : decide (0 ≤ cu) = true := decide_eq_true (by omega)
            by_cases hv0 : cv < 0
            · have d3 : decide (cv < 0) = true := decide_eq_true hv0
              have d4 : decide (0 ≤ cv) = false := decide_eq_false (by omega)
              cases p <;> cases q <;> (go_wp2; go_ret; exact ⟨rfl, hO⟩)
            · have d3 : decide (cv < 0) = false := decide_eq_false hv0
              have d4 : decide (0 ≤ cv) = true := decide_eq_true (by omega)
              cases p <;> cases q <;> (go_wp2; go_ret; exact ⟨rfl, hO⟩)
end Go.Proofs.Qxb6613590a
