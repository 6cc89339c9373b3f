import Derived.Test.Qxb6613590aFirstCalls
import Derived.Test.Qxb6613590aFirstPlain
import Derived.Test.Qxb6613590aKit
import Derived.Deep.CutRange
import Derived.Deep.CutBlock
import Derived.Deep.DeepCutAuto
import Derived.Deep.Light
import Derived.Deep.DeepMust
namespace Go.Proofs.Qxb6613590a
open Go.RowKit

theorem Try.info21 : (Try.prog.info? 21).map (fun i => (i.zero, i.size, i.bytes)) = some (some (.int .i32 0), 1, 4) := by kernel_rfl
theorem Try.info4 : (Try.prog.info? 4).map (fun i => (i.zero, i.size, i.bytes)) = some (some (.bool false), 1, 1) := by kernel_rfl
theorem Try.size21 : (Try.prog.info? 21).map (·.size) = some 1 := by kernel_rfl

/-- The three rows that the call has made: next's copy, prev's copy, the marks; below them all is as it was. -/
structure Mem (B g0 g1 g2 : Nat) (w wr : World) (n : Nat) (N M : Nat → Int) (on : Nat → Bool) : Prop where
  rn : wr.rowIs g0 21 (n + 1) (fun i => .int .i32 (N i))
  rp : wr.rowIs g1 21 (n + 1) (fun i => .int .i32 (M i))
  ro : wr.rowIs g2 4 (n + 1) (fun i => .bool (on i))
  old : Below B w wr

theorem Mem.mark {B g0 g1 g2 : Nat} {w wr : World} {n : Nat} {N M : Nat → Int} {on : Nat → Bool} (h : Mem B g0 g1 g2 w wr n N M on) (h0 : g0 < g2) (h1 : g1 < g2) (hB : B ≤ g2) (m : Nat) :
    Mem B g0 g1 g2 w (wr.setCell ⟨g2, m, none⟩ (.bool true)) n N M (fun i => if i = m then true else on i) := by
  refine ⟨h.rn.setOther (by show g0 ≠ g2; omega) _, h.rp.setOther (by show g1 ≠ g2; omega) _, (h.ro.set m _).congr (fun i _ => ?_), h.old.setCell (by exact hB) _⟩
  split <;> rfl

theorem Mem.later {B g0 g1 g2 : Nat} {w wr w4 : World} {n : Nat} {N M : Nat → Int} {on : Nat → Bool} (h : Mem B g0 g1 g2 w wr n N M on) (hB : B ≤ g0) (k : Below wr.heap.size wr w4) : Mem B g0 g1 g2 w w4 n N M on :=
  ⟨row_later h.rn k h.rn.lt, row_later h.rp k h.rp.lt, row_later h.ro k h.ro.lt, h.old.trans (k.mono (by have := h.rn.lt; omega))⟩

theorem Mem.other {B g0 g1 g2 : Nat} {w wr : World} {n : Nat} {N M : Nat → Int} {on : Nat → Bool} (h : Mem B g0 g1 g2 w wr n N M on) (g m : Nat) (v : Value) (h0 : g0 < g) (h1 : g1 < g) (h2 : g2 < g) (hB : B ≤ g) :
    Mem B g0 g1 g2 w (wr.setCell ⟨g, m, none⟩ v) n N M on :=
  ⟨h.rn.setOther (by show g0 ≠ g; omega) _, h.rp.setOther (by show g1 ≠ g; omega) _, h.ro.setOther (by show g2 ≠ g; omega) _, h.old.setCell (by exact hB) _⟩

/-- The two copies that are written. -/
structure Two (g3 g4 : Nat) (wr : World) (n : Nat) (A C : Nat → Int) : Prop where
  ra : wr.rowIs g3 21 (n + 1) (fun i => .int .i32 (A i))
  rc : wr.rowIs g4 21 (n + 1) (fun i => .int .i32 (C i))

theorem Two.setA {g3 g4 : Nat} {wr : World} {n : Nat} {A C : Nat → Int} (h : Two g3 g4 wr n A C) (hne : g3 < g4) (m : Nat) (v : Int) :
    Two g3 g4 (wr.setCell ⟨g3, m, none⟩ (.int .i32 v)) n (fun i => if i = m then v else A i) C :=
  ⟨(h.ra.set m _).congr (fun i _ => by by_cases e : i = m <;> simp [e]), h.rc.setOther (by show g4 ≠ g3; omega) _⟩
theorem Two.setC {g3 g4 : Nat} {wr : World} {n : Nat} {A C : Nat → Int} (h : Two g3 g4 wr n A C) (hne : g3 < g4) (m : Nat) (v : Int) :
    Two g3 g4 (wr.setCell ⟨g4, m, none⟩ (.int .i32 v)) n A (fun i => if i = m then v else C i) :=
  ⟨h.ra.setOther (by show g3 ≠ g4; omega) _, (h.rc.set m _).congr (fun i _ => by by_cases e : i = m <;> simp [e])⟩
theorem Two.congr {g3 g4 : Nat} {wr : World} {n : Nat} {A C A' C' : Nat → Int} (h : Two g3 g4 wr n A C) (ha : ∀ i, i < n + 1 → A i = A' i) (hc : ∀ i, i < n + 1 → C i = C' i) : Two g3 g4 wr n A' C' :=
  ⟨h.ra.congr (fun i hi => by rw [ha i hi]), h.rc.congr (fun i hi => by rw [hc i hi])⟩
theorem Two.step {g3 g4 : Nat} {wr : World} {n k : Nat} {N M : Nat → Int} (h : Two g3 g4 wr n (fun i => if i < k then N i else 0) (fun i => if i < k then M i else 0)) (hne : g3 < g4) :
    Two g3 g4 ((wr.setCell ⟨g3, k, none⟩ (.int .i32 (N k))).setCell ⟨g4, k, none⟩ (.int .i32 (M k))) n (fun i => if i < k + 1 then N i else 0) (fun i => if i < k + 1 then M i else 0) := by
  refine ((h.setA hne k (N k)).setC hne k (M k)).congr (fun i _ => ?_) (fun i _ => ?_)
  all_goals
    by_cases e : i = k
    · subst e; simp
    · by_cases e2 : i < k
      · simp [e, e2, Nat.lt_succ_of_lt e2]
      · have e3 : ¬ i < k + 1 := by omega
        simp [e, e2, e3]

/-- Where the search backward from y has come to: the head, with nothing on the list below y; or a read on the list below y. -/
def Back (on : Nat → Bool) (n y q : Nat) : Prop := (q = n ∧ ∀ j, j < y → on j = false) ∨ (q < y ∧ on q = true)

/-- What the search has found, as the end of the walk wants it. -/
theorem Back.link {h : Nat} {N : Nat → Int} {on : Nat → Bool} {y q : Nat} (hD : Done h N on) (hy : y < h) (hQ : Back on h y q) : q ≤ h ∧ ∃ S : Nat, N q = (S : Int) ∧ S ≤ h := by
  rcases hQ with ⟨rfl, _⟩ | ⟨hq, hon⟩
  · exact ⟨Nat.le_refl _, (N q).toNat, by have := hD.lo; omega, by have := hD.hi; omega⟩
  · have := hD.links q (by omega) hon
    exact ⟨by omega, (N q).toNat, by omega, by omega⟩
theorem Back.head {h L : Nat} {N : Nat → Int} {on : Nat → Bool} {y : Nat} (hD : Done h N on) (hL : N h = (L : Int)) (hy : y < h) (hoff : on y = false) (hQ : Back on h y h) : y < L := by
  rcases hQ with ⟨_, hall⟩ | ⟨hq, _⟩
  · by_cases e : y < L
    · exact e
    · have hl : L < h := by omega
      have := hD.least (by omega)
      rw [hL] at this
      simp only [Int.toNat_natCast] at this
      by_cases e2 : L = y
      · rw [e2, hoff] at this; simp at this
      · rw [hall L (by omega)] at this; simp at this
  · omega
theorem Back.read {h L : Nat} {N : Nat → Int} {on : Nat → Bool} {y q : Nat} (hD : Done h N on) (hL : N h = (L : Int)) (hne : q ≠ h) (hQ : Back on h y q) : L < y := by
  rcases hQ with ⟨e, _⟩ | ⟨hq, hon⟩
  · exact absurd e hne
  · by_cases e : q < L
    · have := hD.below q (by omega)
      rw [hon] at this
      simp at this
    · omega

set_option maxHeartbeats 1600000 in
set_option maxRecDepth 1000000 in
theorem walk_main (n : Nat) (hn : n + 1 ≤ 65536) (x0 x1 : Addr) (c0 c1 : Nat) (N M : Nat → Int) (x : Int) (w : World)
    (h0 : ∀ i, i < n + 1 → w.cell? (x0.add i) = some (.int .i32 (N i))) (h1 : ∀ i, i < n + 1 → w.cell? (x1.add i) = some (.int .i32 (M i))) :
    Calls Try.prog 5 #[.slice (some x0) (n + 1) c0, .slice (some x1) (n + 1) c1, .int .i32 x] w fun e w' => e = .returned (.bool true) ∧ Below w.heap.size w w' := by
  have hd : decide (n + 1 + (n + 1) ≤ 1048576) = true := decide_eq_true (by omega)
  have hmk := run_make_row' (P := Try.prog) 26 21 (.int .i32 0) 4 Try.underlying26 Try.info21 rfl .i64 .i64 (n + 1) (by omega) (by omega)
  have hmb := run_make_row' (P := Try.prog) 28 4 (.bool false) 1 Try.underlying28 Try.info4 rfl .i64 .i64 (n + 1) (by omega) (by omega)
  have hne := fun (w : World) (a : Addr) (c : Nat) => run_neq_slice_nil_any (P := Try.prog) w 26 21 (some a) (n + 1) c 0 0 Try.underlying26
  have eN : ((n + 1 : Nat) : Int) = (n : Int) + 1 := by omega
  rw [eN] at hmk hmb
  clear eN
  have H0 : Aside (∀ W, Below w.heap.size w W → ∀ i, i < n + 1 → W.cell? (x0.add i) = some (.int .i32 (N i))) := fun W hB i hi => by
    rw [hB.cell (p := x0.add i) (World.block_lt_of_cell? _ _ (h0 i hi))]; exact h0 i hi
  have H1 : Aside (∀ W, Below w.heap.size w W → ∀ i, i < n + 1 → W.cell? (x1.add i) = some (.int .i32 (M i))) := fun W hB i hi => by
    rw [hB.cell (p := x1.add i) (World.block_lt_of_cell? _ _ (h1 i hi))]; exact h1 i hi
  clear h0 h1
  have hz : (n : Int) ≤ 65535 := by omega
  have HN : Aside (n + 1 ≤ 65536) := hn
  clear hn
  have k1 : decide ((65536 : Int) < (n : Int) + 1) = false := decide_eq_false (by omega)
  have k0 : ((n : Int) + 1 == 0) = false := beq_eq_false_iff_ne.2 (by omega)
  go_enter Try.func5, Try.ntmps5
  go_wp2_with fail
  refine (bytes14 _ _ _ _ _ _ _ _ (by omega) (by omega)).mono ?_
  rintro e w' ⟨rfl, rfl⟩
  rw [hd]
  clear hd
  go_wp2_with (first
    | (refine wpList_copy_ints rfl (.tmp 54) (.tmp 55) 26 26 rfl 21 Try.underlying26 Try.size21 _ (n + 1) _ _ x0 rfl rfl .i32 21 _ (World.rowIs_made _ _ _ _) N (H0.out _ ((Below.refl _ _).alloc (Nat.le_refl _) _)) ?_; intro w2 r2 B2; have B2' : Below w.heap.size w w2 := ((Below.refl _ _).alloc (Nat.le_refl _) _).trans B2; clear B2)
    | (refine wpList_copy_ints rfl (.tmp 63) (.tmp 64) 26 26 rfl 21 Try.underlying26 Try.size21 _ (n + 1) _ _ x1 rfl rfl .i32 21 _ (World.rowIs_made _ _ _ _) M (H1.out _ (B2'.alloc B2'.size _)) ?_; intro w3 r3 B3; have q2 := row_later (r2.alloc _) B3 r2.lt; have B3' := (B2'.alloc B2'.size _).trans (B3.mono B2'.size); have z3 : w.heap.size < w2.heap.size := r2.lt; have c3 := fun o => (q2.alloc o).cell (Nat.lt_succ_self n); clear r2 B2' B3))
  have hM0 : Mem w.heap.size w.heap.size w2.heap.size w3.heap.size w (w3.alloc (.cells (madeCells #[.bool false] (n + 1)) 4)) n N M (fun _ => false) :=
    ⟨q2.alloc _, r3.alloc _, World.rowIs_made _ _ _ _, B3'.alloc B3'.size _⟩
  have z4 : w2.heap.size < w3.heap.size := r3.lt
  clear q2 r3 B3' c3 hmk hmb hne H0 H1 k0 k1
  go_loopg [11, 12] (n + 1) (fun g last cur wr => ∃ (l c : Int) (on : Nat → Bool), last = .int .i32 l ∧ cur = .int .i32 c ∧ g = togo n l ∧ Inv n N on l c ∧ Mem w.heap.size w.heap.size w2.heap.size w3.heap.size w wr n N M on)
  case atStart => exact ⟨n, N n, _, rfl, rfl, by simp [togo], Inv.first n N, hM0⟩
  case round =>
    obtain ⟨l, c, on, rfl, rfl, rfl, hI, hM⟩ := hrel
    clear hM0
    by_cases hcn : c = (n : Int)
    · subst hcn
      have hD := hI.done
      have t1 : wr.cell? ⟨w2.heap.size, n, none⟩ = some (.int .i32 (M n)) := hM.rp.cell (by omega)
      by_cases hp : M n = l
      · have b2 : (M n != l) = false := by simp [hp]
        have P1 : Aside (M n = l) := hp
        clear hp
        obtain ⟨wo, rfl⟩ : ∃ wo : World, wo = wr := ⟨_, rfl⟩
        obtain ⟨L, hL⟩ : ∃ L : Nat, N n = (L : Int) := ⟨(N n).toNat, by have := hD.lo; omega⟩
        have hLn : L ≤ n := by have := hD.hi; omega
        have hlo : Aside (∀ i : Nat, i < L → on i = false) := fun i hi => hD.below i (by omega)
        have hat : Aside (L < n → on L = true) := fun h => by have := hD.least (by omega); rw [hL] at this; simpa using this
        have HL : Aside (N n = (L : Int)) := hL
        have HD : Aside (Done n N on) := hD
        clear hL hD hI
        go_upto_block 2 with fail
        go_cut [13, 14] from 118 to 127 (fun s13 s14 wx => s13 = .int .i32 (L : Int) ∧ wo = wx)
        case first =>
          go_wp2_with fail
          go_loopg [13, 14] (n + 1) (fun g s13 s14 wx => ∃ k : Nat, k ≤ L ∧ g = n + 1 - k ∧ s13 = .int .i32 n ∧ s14 = .int .i32 k ∧ wo = wx)
          case atStart => exact ⟨0, Nat.zero_le _, rfl, rfl, rfl, rfl⟩
          case round =>
            obtain ⟨k, hk, rfl, rfl, rfl, rfl⟩ := hrel
            by_cases hkn : k < n
            · have t : wo.cell? ⟨w3.heap.size, k, none⟩ = some (.bool (on k)) := hM.ro.cell (by omega)
              cases hon : on k
              · rw [hon] at t
                have hkL : k + 1 ≤ L := by
                  by_cases e : k = L
                  · subst e
                    have := hat.out hkn
                    rw [hon] at this
                    simp at this
                  · omega
                clear hon
                go_wp2
                go_roundg (n + 1 - (k + 1))
                case measure => omega
                case rel => exact ⟨k + 1, hkL, rfl, rfl, by go_num, rfl⟩
              · rw [hon] at t
                obtain rfl : k = L := by
                  by_cases e : k < L
                  · have := hlo.out k e
                    rw [hon] at this
                    simp at this
                  · omega
                clear hon
                go_wp2
                go_meet
                exact ⟨rfl, rfl⟩
            · obtain rfl : L = n := by omega
              obtain rfl : k = L := by omega
              go_wp2
              go_meet
              exact ⟨rfl, rfl⟩
        case rest =>
          obtain ⟨rfl, rfl⟩ := hcut
          clear hat
          go_wp2_with fail
          refine (first15 w.heap.size n _ _ _ _ (L : Int) wo (by omega) (by have := hM.rn.cell (Nat.lt_succ_self n); rw [HL.out] at this; exact this) hM.rn.lt).mono ?_
          rintro e w4 ⟨rfl, hB4⟩
          have hM4 := hM.later (Nat.le_refl _) hB4
          clear hM hB4 t1
          go_upto_region 40 with fail
          by_cases hx0 : x < 0
          · go_wp2
            go_ret
            exact ⟨rfl, hM4.old⟩
          · by_cases hx1 : (n : Int) ≤ x
            · go_wp2
              go_ret
              exact ⟨rfl, hM4.old⟩
            · obtain ⟨y, rfl⟩ : ∃ y : Nat, x = (y : Int) := ⟨x.toNat, by omega⟩
              have hy : y < n := by omega
              clear hx0 hx1
              have t5 : w4.cell? ⟨w3.heap.size, y, none⟩ = some (.bool (on y)) := hM4.ro.cell (by omega)
              cases hon : on y
              · rw [hon] at t5
                have hmk := run_make_row' (P := Try.prog) 26 21 (.int .i32 0) 4 Try.underlying26 Try.info21 rfl .i64 .i64 (n + 1) (by omega) (by omega)
                have eN : ((n + 1 : Nat) : Int) = (n : Int) + 1 := by omega
                rw [eN] at hmk
                clear eN
                go_wp2
                have hT0 : Two w4.heap.size (w4.heap.size + 1) ((w4.alloc (.cells (madeCells #[.int .i32 0] (n + 1)) 21)).alloc (.cells (madeCells #[.int .i32 0] (n + 1)) 21)) n (fun i => if i < 0 then N i else 0) (fun i => if i < 0 then M i else 0) := by
                  have r5 := (World.rowIs_made w4 (.int .i32 0) (n + 1) 21).alloc (.cells (madeCells #[.int .i32 0] (n + 1)) 21)
                  have r6 := World.rowIs_made (w4.alloc (.cells (madeCells #[.int .i32 0] (n + 1)) 21)) (.int .i32 0) (n + 1) 21
                  rw [World.size_alloc] at r6
                  exact ⟨r5.congr (fun i _ => by simp), r6.congr (fun i _ => by simp)⟩
                have hM5 : Mem w.heap.size w.heap.size w2.heap.size w3.heap.size w ((w4.alloc (.cells (madeCells #[.int .i32 0] (n + 1)) 21)).alloc (.cells (madeCells #[.int .i32 0] (n + 1)) 21)) n N M on :=
                  ⟨(hM4.rn.alloc _).alloc _, (hM4.rp.alloc _).alloc _, (hM4.ro.alloc _).alloc _, (hM4.old.alloc hM4.old.size _).alloc (by rw [World.size_alloc]; have := hM4.old.size; omega) _⟩
                have z5 : w3.heap.size < w4.heap.size := hM4.ro.lt
                have Hon : Aside (on y = false) := hon
                clear hM4 hmk t5 hon
                go_loopg [19] (n + 1) (fun g s19 wx => ∃ k : Nat, k ≤ n + 1 ∧ g = n + 1 - k ∧ s19 = .int .i64 k ∧ Mem w.heap.size w.heap.size w2.heap.size w3.heap.size w wx n N M on ∧ Two w4.heap.size (w4.heap.size + 1) wx n (fun i => if i < k then N i else 0) (fun i => if i < k then M i else 0))
                case atStart => exact ⟨0, Nat.zero_le _, rfl, rfl, hM5, hT0⟩
                case round =>
                  obtain ⟨k, hk, rfl, rfl, hM6, hT6⟩ := hrel
                  clear hM5 hT0
                  by_cases hkn : k < n + 1
                  · have t1 : wr.cell? ⟨w.heap.size, k, none⟩ = some (.int .i32 (N k)) := hM6.rn.cell hkn
                    have t2 : wr.cell? ⟨w4.heap.size, k, none⟩ = some (.int .i32 0) := by simpa using hT6.ra.cell hkn
                    have t3 : wr.frozen? ⟨w4.heap.size, k, none⟩ = false := hT6.ra.frozen k
                    have hM7 := hM6.other w4.heap.size k (.int .i32 (N k)) (by omega) (by omega) (by omega) (by omega)
                    have hT7 := hT6.setA (Nat.lt_succ_self _) k (N k)
                    have t4 : (wr.setCell ⟨w4.heap.size, k, none⟩ (.int .i32 (N k))).cell? ⟨w2.heap.size, k, none⟩ = some (.int .i32 (M k)) := hM7.rp.cell hkn
                    have t5 : (wr.setCell ⟨w4.heap.size, k, none⟩ (.int .i32 (N k))).cell? ⟨w4.heap.size + 1, k, none⟩ = some (.int .i32 0) := by simpa using hT7.rc.cell hkn
                    have t6 : (wr.setCell ⟨w4.heap.size, k, none⟩ (.int .i32 (N k))).frozen? ⟨w4.heap.size + 1, k, none⟩ = false := hT7.rc.frozen k
                    clear hM7 hT7
                    go_wp2
                    go_roundg (n + 1 - (k + 1))
                    case measure => omega
                    case rel => exact ⟨k + 1, hkn, rfl, by go_num, (hM6.other _ _ _ (by omega) (by omega) (by omega) (by omega)).other _ _ _ (by omega) (by omega) (by omega) (by omega), hT6.step (Nat.lt_succ_self _)⟩
                  · obtain rfl : k = n + 1 := by omega
                    have hT : Two w4.heap.size (w4.heap.size + 1) wr n N M := hT6.congr (fun i hi => by simp [hi]) (fun i hi => by simp [hi])
                    clear hT6 hk hkn
                    obtain ⟨w6, rfl⟩ : ∃ w6 : World, w6 = wr := ⟨_, rfl⟩
                    go_upto_block 6 with fail
                    go_cut [20, 21] from 186 to 194 (fun s20 s21 wx => ∃ q : Nat, s20 = .int .i32 (q : Int) ∧ Back on n y q ∧ w6 = wx)
                    case first =>
                      go_wp2_with fail
                      go_loopg [20, 21] y (fun g s20 s21 wx => ∃ (k : Nat) (i : Int), k ≤ y ∧ g = k ∧ s20 = .int .i32 (n : Int) ∧ s21 = .int .i32 i ∧ i = (k : Int) - 1 ∧ (∀ j, k ≤ j → j < y → on j = false) ∧ w6 = wx)
                      case atStart => exact ⟨y, _, Nat.le_refl _, rfl, rfl, rfl, rfl, fun j h1 h2 => by omega, rfl⟩
                      case round =>
                        obtain ⟨k, i, hk, rfl, rfl, rfl, hik, hall, rfl⟩ := hrel
                        have Hall : Aside (∀ j, gk ≤ j → j < y → on j = false) := hall
                        clear hall
                        cases gk with
                        | zero =>
                          obtain rfl : i = -1 := by omega
                          clear hik
                          go_wp2
                          go_meet
                          exact ⟨n, rfl, .inl ⟨rfl, fun j hj => Hall.out j (Nat.zero_le _) hj⟩, rfl⟩
                        | succ k =>
                          obtain rfl : i = (k : Int) := by omega
                          clear hik
                          have t : w6.cell? ⟨w3.heap.size, k, none⟩ = some (.bool (on k)) := hM6.ro.cell (by omega)
                          cases hon : on k
                          · rw [hon] at t
                            have Hon : Aside (on k = false) := hon
                            clear hon
                            go_wp2
                            go_roundg k
                            case measure => omega
                            case rel => exact ⟨k, _, by omega, rfl, rfl, rfl, by omega, fun j h1 h2 => by
                              by_cases e : j = k
                              · rw [e]; exact Hon.out
                              · exact Hall.out j (by omega) h2, rfl⟩
                          · rw [hon] at t
                            have Hon : Aside (on k = true) := hon
                            clear hon
                            go_wp2
                            go_meet
                            exact ⟨k, rfl, .inr ⟨by omega, Hon.out⟩, rfl⟩
                    case rest =>
                      obtain ⟨q, rfl, hQ, rfl⟩ := hcut
                      have HQ : Aside (Back on n y q) := hQ
                      clear hQ
                      obtain ⟨hqn, S, hS, hSn⟩ := HQ.out.link HD.out hy
                      have z6 : w4.heap.size < w4.heap.size + 1 := Nat.lt_succ_self _
                      have t1 : w6.cell? ⟨w4.heap.size, q, none⟩ = some (.int .i32 (S : Int)) := by rw [← hS]; exact hT.ra.cell (by omega)
                      have t2 : w6.frozen? ⟨w4.heap.size, q, none⟩ = false := hT.ra.frozen q
                      have T1 := hT.setA z6 q (y : Int)
                      obtain ⟨v3, t3⟩ : ∃ v, (w6.setCell ⟨w4.heap.size, q, none⟩ (.int .i32 (y : Int))).cell? ⟨w4.heap.size + 1, y, none⟩ = some v := ⟨_, T1.rc.cell (by omega)⟩
                      have t4 := T1.rc.frozen y
                      have T2 := T1.setC z6 y (q : Int)
                      obtain ⟨v5, t5⟩ : ∃ v, ((w6.setCell ⟨w4.heap.size, q, none⟩ (.int .i32 (y : Int))).setCell ⟨w4.heap.size + 1, y, none⟩ (.int .i32 (q : Int))).cell? ⟨w4.heap.size, y, none⟩ = some v := ⟨_, T2.ra.cell (by omega)⟩
                      have t6 := T2.ra.frozen y
                      have T3 := T2.setA z6 y (S : Int)
                      obtain ⟨v7, t7⟩ : ∃ v, (((w6.setCell ⟨w4.heap.size, q, none⟩ (.int .i32 (y : Int))).setCell ⟨w4.heap.size + 1, y, none⟩ (.int .i32 (q : Int))).setCell ⟨w4.heap.size, y, none⟩ (.int .i32 (S : Int))).cell? ⟨w4.heap.size + 1, S, none⟩ = some v := ⟨_, T3.rc.cell (by omega)⟩
                      have t8 := T3.rc.frozen S
                      have T4 := T3.setC z6 S (y : Int)
                      have hM7 := (((hM6.other w4.heap.size q (.int .i32 (y : Int)) (by omega) (by omega) (by omega) (by omega)).other (w4.heap.size + 1) y (.int .i32 (q : Int)) (by omega) (by omega) (by omega) (by omega)).other w4.heap.size y (.int .i32 (S : Int)) (by omega) (by omega) (by omega) (by omega)).other (w4.heap.size + 1) S (.int .i32 (y : Int)) (by omega) (by omega) (by omega) (by omega)
                      have ra := T4.ra
                      clear T1 T2 T3 T4 hT hS hM6
                      by_cases hqe : q = n
                      · subst hqe
                        have hyL : y < L := HQ.out.head HD.out HL.out hy Hon.out
                        have cv := ra.cell (Nat.lt_succ_self q)
                        simp only [if_neg (show ¬ q = y by omega), if_true] at cv
                        have b1 : ((y : Int) != (q : Int)) = true := by simp; omega
                        go_wp2_with fail
                        refine (first15 w4.heap.size q _ _ _ _ (y : Int) _ (by omega) cv ra.lt).mono ?_
                        rintro e w8 ⟨rfl, hB8⟩
                        have hM8 := hM7.later (Nat.le_refl _) hB8
                        clear hB8 cv t1 t2 t3 t4 t5 t6 t7 t8
                        go_wp2
                        go_ret
                        exact ⟨rfl, hM8.old⟩
                      · have hyL : L < y := HQ.out.read HD.out HL.out hqe
                        have cv := ra.cell (Nat.lt_succ_self n)
                        simp only [if_neg (show ¬ n = y by omega), if_neg (show ¬ n = q by omega), HL.out] at cv
                        have b1 : ((L : Int) != (n : Int)) = true := by simp; omega
                        go_wp2_with fail
                        refine (first15 w4.heap.size n _ _ _ _ (L : Int) _ (by omega) cv ra.lt).mono ?_
                        rintro e w8 ⟨rfl, hB8⟩
                        have hM8 := hM7.later (Nat.le_refl _) hB8
                        clear hB8 cv t1 t2 t3 t4 t5 t6 t7 t8
                        go_wp2
                        go_ret
                        exact ⟨rfl, hM8.old⟩
              · rw [hon] at t5
                go_wp2
                go_ret
                exact ⟨rfl, hM4.old⟩
      · have b2 : (M n != l) = true := by simpa using hp
        go_wp2
        go_ret
        exact ⟨rfl, hM.old⟩
    · by_cases hc0 : c < 0
      · go_wp2
        go_ret
        exact ⟨rfl, hM.old⟩
      · by_cases hc1 : (n : Int) ≤ c
        · go_wp2
          go_ret
          exact ⟨rfl, hM.old⟩
        · obtain ⟨m, rfl⟩ : ∃ m : Nat, c = (m : Int) := ⟨c.toNat, by omega⟩
          have hm : m < n := by omega
          clear hc0 hc1 hcn
          have t1 : wr.cell? ⟨w2.heap.size, m, none⟩ = some (.int .i32 (M m)) := hM.rp.cell (by omega)
          have t2 : wr.cell? ⟨w3.heap.size, m, none⟩ = some (.bool (on m)) := hM.ro.cell (by omega)
          have t3 : wr.frozen? ⟨w3.heap.size, m, none⟩ = false := hM.ro.frozen m
          have hM' := hM.mark (by omega) (by omega) (by omega) m
          have t4 : (wr.setCell ⟨w3.heap.size, m, none⟩ (.bool true)).cell? ⟨w.heap.size, m, none⟩ = some (.int .i32 (N m)) := hM'.rn.cell (by omega)
          by_cases hl : l = (n : Int)
          · subst hl
            have b1 : (((n : Int)) != (n : Int)) = false := by simp
            by_cases hp : M m = (n : Int)
            · have P1 : Aside (M m = (n : Int)) := hp
              have b2 : (M m != (n : Int)) = false := by simp [hp]
              clear hp
              go_wp2
              go_roundg (togo n m)
              case measure => exact togo_step hm (.inl rfl)
              case rel => exact ⟨m, N m, _, rfl, rfl, rfl, hI.step hm (.inl rfl), hM'⟩
            · have b2 : (M m != (n : Int)) = true := by simpa using hp
              go_wp2
              go_ret
              exact ⟨rfl, hM.old⟩
          · have b1 : (l != (n : Int)) = true := by simpa using hl
            by_cases hle : (m : Int) ≤ l
            · go_wp2
              go_ret
              exact ⟨rfl, hM.old⟩
            · by_cases hp : M m = l
              · have P1 : Aside (M m = l) := hp
                have b2 : (M m != l) = false := by simp [hp]
                clear hp
                have hl0 : 0 ≤ l := (hI.go hl).1
                go_wp2
                go_roundg (togo n m)
                case measure => exact togo_step hm (.inr ⟨hl0, by omega⟩)
                case rel => exact ⟨m, N m, _, rfl, rfl, rfl, hI.step hm (.inr (by omega)), hM'⟩
              · have b2 : (M m != l) = true := by simpa using hp
                go_wp2
                go_ret
                exact ⟨rfl, hM.old⟩

end Go.Proofs.Qxb6613590a
