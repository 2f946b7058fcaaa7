import Derived.Test.Qxb6600706aFur
import Derived.Deep.OwnRows
namespace Go.Proofs.Qxb6600706a
open Go.RowKit

theorem cell_far (w : World) (p a : Addr) (v : Value) (h : p ≠ a) : (w.setCell p v).cell? a = w.cell? a := by
  apply World.cell?_setCell_other
  exact h

/-- The memory of middleSnake: the frontiers F and B in blocks fb and bb, the two texts' lines S and T as they came. -/
structure Mem (w0 w : World) (n m ab ao tb to fb bb : Nat) (S T : Nat → ByteArray) (F B : Int → Int) : Prop where
  fr : Row w fb n m F
  br : Row w bb n m B
  ff : ∀ i, w.frozen? ⟨fb, i, none⟩ = false
  bf : ∀ i, w.frozen? ⟨bb, i, none⟩ = false
  fs : Small n F
  bs : Small n B
  sa : ∀ i, i < n → w.cell? ⟨ab, ao + i, none⟩ = some (.string (S i))
  st : ∀ i, i < m → w.cell? ⟨tb, to + i, none⟩ = some (.string (T i))
  bel : Below w0.heap.size w0 w
  ha : ab < w0.heap.size
  ht : tb < w0.heap.size
  hf : w0.heap.size ≤ fb
  hb : w0.heap.size ≤ bb
  hne : fb ≠ bb

theorem Mem.drewN {w0 w : World} {n m ab ao tb to fb bb : Nat} {S T : Nat → ByteArray} {F B : Int → Int} (h : Mem w0 w n m ab ao tb to fb bb S T F B) (q : Nat) : Mem w0 (w.drewN q) n m ab ao tb to fb bb S T F B :=
  ⟨h.fr, h.br, h.ff, h.bf, h.fs, h.bs, h.sa, h.st, below_drewN h.bel q, h.ha, h.ht, h.hf, h.hb, h.hne⟩

theorem Row.set {w : World} {fb n m : Nat} {V : Int → Int} (h : Row w fb n m V) (j v i : Int) (hi : i = j + m) (h0 : 0 ≤ i) (_h1 : i ≤ (n : Int) + m) : Row (w.setCell ⟨fb, i.toNat, none⟩ (.int .i64 v)) fb n m (upd V j v) := by
  intro p hp
  unfold upd
  by_cases e : p = i.toNat
  · subst e
    rw [if_pos (by omega)]
    exact World.cell?_setCell_same _ _ _ (h i.toNat (by omega))
  · rw [if_neg (by omega), cell_far _ _ _ _ (by intro q; injection q with q1 q2; omega)]
    exact h p hp

theorem Row.far {w : World} {fb n m : Nat} {V : Int → Int} (h : Row w fb n m V) (a : Addr) (v : Value) (hne : a.block ≠ fb) : Row (w.setCell a v) fb n m V := by
  intro p hp
  rw [cell_far _ _ _ _ (by intro q; apply hne; rw [q])]
  exact h p hp

theorem Small.upd {n : Nat} {V : Int → Int} (h : Small n V) (j v : Int) (h0 : -1 ≤ v) (h1 : v ≤ n) : Small n (upd V j v) := by
  intro k
  unfold Qxb6600706a.upd
  split
  · exact ⟨h0, h1⟩
  · exact h k

theorem Mem.setF {w0 w : World} {n m ab ao tb to fb bb : Nat} {S T : Nat → ByteArray} {F B : Int → Int} (h : Mem w0 w n m ab ao tb to fb bb S T F B) (j v i : Int) (hi : i = j + m) (h0 : 0 ≤ i) (h1 : i ≤ (n : Int) + m) (v0 : -1 ≤ v) (v1 : v ≤ n) :
    Mem w0 (w.setCell ⟨fb, i.toNat, none⟩ (.int .i64 v)) n m ab ao tb to fb bb S T (upd F j v) B :=
  ⟨h.fr.set j v i hi h0 h1, h.br.far _ _ h.hne, fun p => by rw [World.frozen?_setCell]; exact h.ff p, fun p => by rw [World.frozen?_setCell]; exact h.bf p, h.fs.upd j v v0 v1, h.bs,
    fun p hp => by rw [cell_far _ _ _ _ (by intro q; have := h.ha; have := h.hf; injection q with q1 q2; omega)]; exact h.sa p hp,
    fun p hp => by rw [cell_far _ _ _ _ (by intro q; have := h.ht; have := h.hf; injection q with q1 q2; omega)]; exact h.st p hp,
    h.bel.setCell h.hf _, h.ha, h.ht, h.hf, h.hb, h.hne⟩

theorem Mem.setB {w0 w : World} {n m ab ao tb to fb bb : Nat} {S T : Nat → ByteArray} {F B : Int → Int} (h : Mem w0 w n m ab ao tb to fb bb S T F B) (j v i : Int) (hi : i = j + m) (h0 : 0 ≤ i) (h1 : i ≤ (n : Int) + m) (v0 : -1 ≤ v) (v1 : v ≤ n) :
    Mem w0 (w.setCell ⟨bb, i.toNat, none⟩ (.int .i64 v)) n m ab ao tb to fb bb S T F (upd B j v) :=
  ⟨h.fr.far _ _ (fun q => h.hne q.symm), h.br.set j v i hi h0 h1, fun p => by rw [World.frozen?_setCell]; exact h.ff p, fun p => by rw [World.frozen?_setCell]; exact h.bf p, h.fs, h.bs.upd j v v0 v1,
    fun p hp => by rw [cell_far _ _ _ _ (by intro q; have := h.ha; have := h.hb; injection q with q1 q2; omega)]; exact h.sa p hp,
    fun p hp => by rw [cell_far _ _ _ _ (by intro q; have := h.ht; have := h.hb; injection q with q1 q2; omega)]; exact h.st p hp,
    h.bel.setCell h.hb _, h.ha, h.ht, h.hf, h.hb, h.hne⟩

/-- The two new rows, each of zeros. -/
theorem Mem.made (w0 : World) (n m ab ao tb to : Nat) (S T : Nat → ByteArray) (hS : ∀ i, i < n → w0.cell? ⟨ab, ao + i, none⟩ = some (.string (S i))) (hT : ∀ i, i < m → w0.cell? ⟨tb, to + i, none⟩ = some (.string (T i)))
    (ha : ab < w0.heap.size) (ht : tb < w0.heap.size) :
    Mem w0 ((w0.alloc (.cells (madeCells #[.int .i64 0] (n + m + 1)) 3)).alloc (.cells (madeCells #[.int .i64 0] (n + m + 1)) 3)) n m ab ao tb to w0.heap.size (w0.heap.size + 1) S T (fun _ => 0) (fun _ => 0) := by
  have b1 : Below w0.heap.size w0 (w0.alloc (.cells (madeCells #[.int .i64 0] (n + m + 1)) 3)) := (Below.refl _ _).alloc (Nat.le_refl _) _
  have b2 := b1.alloc (by simp) (.cells (madeCells #[.int .i64 0] (n + m + 1)) 3)
  have hz : ∀ i, i < n + m + 1 → (madeCells #[.int .i64 0] (n + m + 1))[i]? = some (.int .i64 0) := by
    intro i hi
    simp [madeCells, hi, Nat.mod_one]
  refine ⟨fun i hi => ?_, fun i hi => ?_, fun i => frozen_of_row _ _ i _ 3 (heap_alloc2_old _ _ _), fun i => frozen_of_row _ _ i _ 3 (heap_alloc2_new _ _ _), fun _ => by omega, fun _ => by omega, fun i hi => ?_, fun i hi => ?_, b2, ha, ht, Nat.le_refl _, by omega, by omega⟩
  · rw [cell_of_row _ _ i _ 3 (0, 0) (heap_alloc2_old _ _ _)]; exact hz i hi
  · rw [cell_of_row _ _ i _ 3 (0, 0) (heap_alloc2_new _ _ _)]; exact hz i hi
  · rw [b2.cell (p := ⟨ab, ao + i, none⟩) ha]; exact hS i hi
  · rw [b2.cell (p := ⟨tb, to + i, none⟩) ht]; exact hT i hi

theorem info3 : (Try.prog.info? 3).map (fun i => (i.zero, i.size, i.bytes)) = some (some (.int .i64 0), 1, 8) := by kernel_rfl

/-- 'make([]int, n+m+1)'. -/
theorem make_any (n m : Nat) (hn : n ≤ 10000) (hm : m ≤ 10000) (w : World) : (Instr.makeSlice 34 (.int .i64 ((n : Int) + m + 1)) (.int .i64 ((n : Int) + m + 1))).run Try.prog w = .ok (.slice (some ⟨w.heap.size, 0, none⟩) (n + m + 1) (n + m + 1)) (w.alloc (.cells (madeCells #[.int .i64 0] (n + m + 1)) 3)) := by
  have h := run_make_row' (P := Try.prog) 34 3 (.int .i64 0) 8 Try.underlying34 info3 rfl .i64 .i64 (n + m + 1) (by omega) (by omega) w
  rwa [show ((n + m + 1 : Nat) : Int) = (n : Int) + m + 1 by omega] at h
end Go.Proofs.Qxb6600706a
