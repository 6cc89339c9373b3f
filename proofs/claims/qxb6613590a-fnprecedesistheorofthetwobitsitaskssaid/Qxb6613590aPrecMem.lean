import Derived.Test.Qxb6613590aPrecFits
import Derived.Test.Qxb6613590aPrecClone
import Derived.Test.Qxb6613590aPrecPlain
namespace Go.Proofs.Qxb6613590a
open Go.RowKit

/-- The three rows that the call has made: the columns, the descendants' words, the ancestors' words. -/
structure Mem3 (B gc gd ga : Nat) (w wr : World) (cl n : Nat) (C D A : Nat → Int) : Prop where
  rc : wr.rowIs gc 21 cl (fun i => .int .i32 (C i))
  rd : wr.rowIs gd 34 n (fun i => .int .u64 (D i))
  ra : wr.rowIs ga 34 n (fun i => .int .u64 (A i))
  old : Below B w wr

theorem Mem3.later {B gc gd ga : Nat} {w wr w4 : World} {cl n : Nat} {C D A : Nat → Int} (h : Mem3 B gc gd ga w wr cl n C D A) (hB : B ≤ gc) (k : Below wr.heap.size wr w4) : Mem3 B gc gd ga w w4 cl n C D A :=
  ⟨row_later h.rc k h.rc.lt, row_later h.rd k h.rd.lt, row_later h.ra k h.ra.lt, h.old.trans (k.mono (by have := h.rc.lt; omega))⟩

theorem Mem3.setD {B gc gd ga : Nat} {w wr : World} {cl n : Nat} {C D A : Nat → Int} (h : Mem3 B gc gd ga w wr cl n C D A) (h1 : gc < gd) (h2 : gd < ga) (hB : B ≤ gc) (m : Nat) (v : Int) :
    Mem3 B gc gd ga w (wr.setCell ⟨gd, m, none⟩ (.int .u64 v)) cl n C (upd D m v) A :=
  ⟨h.rc.setOther (by show gc ≠ gd; omega) _, (h.rd.set m _).congr (fun i _ => by by_cases e : i = m <;> simp [upd, e]), h.ra.setOther (by show ga ≠ gd; omega) _, h.old.setCell (by show B ≤ gd; omega) _⟩

theorem Mem3.setA {B gc gd ga : Nat} {w wr : World} {cl n : Nat} {C D A : Nat → Int} (h : Mem3 B gc gd ga w wr cl n C D A) (h1 : gc < gd) (h2 : gd < ga) (hB : B ≤ gc) (m : Nat) (v : Int) :
    Mem3 B gc gd ga w (wr.setCell ⟨ga, m, none⟩ (.int .u64 v)) cl n C D (upd A m v) :=
  ⟨h.rc.setOther (by show gc ≠ ga; omega) _, h.rd.setOther (by show gd ≠ ga; omega) _, (h.ra.set m _).congr (fun i _ => by by_cases e : i = m <;> simp [upd, e]), h.old.setCell (by show B ≤ ga; omega) _⟩

theorem Mem3.congr {B gc gd ga : Nat} {w wr : World} {cl n : Nat} {C D A D' A' : Nat → Int} (h : Mem3 B gc gd ga w wr cl n C D A) (hd : ∀ i, D i = D' i) (ha : ∀ i, A i = A' i) : Mem3 B gc gd ga w wr cl n C D' A' :=
  ⟨h.rc, h.rd.congr (fun i _ => by rw [hd i]), h.ra.congr (fun i _ => by rw [ha i]), h.old⟩

/-- The numbers that fit, told once. -/
structure Nums (cl n W u v : Nat) (C : Nat → Int) : Prop where
  hn : n = cl * W
  hn2 : n ≤ 32768
  hcl : cl ≤ 65536
  hu : u < cl
  hv : v < cl
  hcu : C u < 64 * (W : Int)
  hcv : C v < 64 * (W : Int)
  hW : W ≤ 16384
  hW1 : 1 ≤ W

theorem Nums.swap {cl n W u v : Nat} {C : Nat → Int} (h : Nums cl n W u v C) : Nums cl n W v u C := ⟨h.hn, h.hn2, h.hcl, h.hv, h.hu, h.hcv, h.hcu, h.hW, h.hW1⟩

/-- 'ZZreachPrecedes' in such a world. -/
theorem Mem3.prec {B gc gd ga : Nat} {w wr : World} {cl n W u v : Nat} {C D A : Nat → Int} (h : Mem3 B gc gd ga w wr cl n C D A) (k : Nums cl n W u v C) (hB : B ≤ gc) (cc dc ac : Nat) :
    Calls Try.prog 19 #[.slice (some ⟨gc, 0, none⟩) cl cc, .int .i64 (W : Int), .slice (some ⟨gd, 0, none⟩) n dc, .slice (some ⟨ga, 0, none⟩) n ac, .int .i32 (u : Int), .int .i32 (v : Int)] wr fun e w' => e = .returned (.bool (preB W C D A u v)) ∧ Mem3 B gc gd ga w w' cl n C D A :=
  (prec19 gc cl cc gd dc ga ac n W C D A u v wr h.rc h.rd h.ra k.hn k.hn2 k.hcl k.hu k.hv k.hcu k.hcv k.hW).mono fun _ _ ⟨h1, h2⟩ => ⟨h1, h.later hB h2⟩

/-- 'ZZreachPrecedes' with the two rows of words exchanged. -/
theorem Mem3.prec' {B gc gd ga : Nat} {w wr : World} {cl n W u v : Nat} {C D A : Nat → Int} (h : Mem3 B gc gd ga w wr cl n C D A) (k : Nums cl n W u v C) (hB : B ≤ gc) (cc dc ac : Nat) :
    Calls Try.prog 19 #[.slice (some ⟨gc, 0, none⟩) cl cc, .int .i64 (W : Int), .slice (some ⟨ga, 0, none⟩) n ac, .slice (some ⟨gd, 0, none⟩) n dc, .int .i32 (u : Int), .int .i32 (v : Int)] wr fun e w' => e = .returned (.bool (preB W C A D u v)) ∧ Mem3 B gc gd ga w w' cl n C D A :=
  (prec19 gc cl cc ga ac gd dc n W C A D u v wr h.rc h.ra h.rd k.hn k.hn2 k.hcl k.hu k.hv k.hcu k.hcv k.hW).mono fun _ _ ⟨h1, h2⟩ => ⟨h1, h.later hB h2⟩
end Go.Proofs.Qxb6613590a
