import Derived.Test.Qxb6609544aDoorCpt
import Derived.Deep.AppendLies
namespace Go.Proofs.Qxb6609544aDoor
open Go.RowKit Go.Sort

/-- What lies below B, but for the cell at O and v's own row, is as it was. -/
structure Fr (B O : Nat) (v : Value) (a w : World) (v' : Value) : Prop where
  os : w.os = a.os
  tape : w.tape = a.tape
  output : w.output = a.output
  size : a.heap.size ≤ w.heap.size
  block : ∀ k, k < B → k ≠ O → v.ownBlock ≠ some k → w.heap[k]? = a.heap[k]?
  own : ∀ g, v'.ownBlock = some g → v.ownBlock = some g ∨ B ≤ g
theorem Fr.refl (B O : Nat) (v : Value) (w : World) : Fr B O v w w v := ⟨rfl, rfl, rfl, Nat.le_refl _, fun _ _ _ _ => rfl, fun _ h => Or.inl h⟩
theorem Fr.below {B O : Nat} {v v' : Value} {a w w' : World} (h : Fr B O v a w v') (hb : Below B w w') : Fr B O v a w' v' :=
  ⟨hb.os.trans h.os, hb.tape.trans h.tape, hb.output.trans h.output, Nat.le_trans h.size hb.size, fun k hk h1 h2 => (hb.block k hk).trans (h.block k hk h1 h2), h.own⟩
theorem Fr.trans {B C O : Nat} {v v1 v2 : Value} {a w w' : World} (h : Fr B O v a w v1) (h' : Fr C O v1 w w' v2) (hB : B ≤ C) : Fr B O v a w' v2 := by
  refine ⟨h'.os.trans h.os, h'.tape.trans h.tape, h'.output.trans h.output, Nat.le_trans h.size h'.size, fun k hk h1 h2 => ?_, fun g hg => ?_⟩
  · refine (h'.block k (by omega) h1 (fun e => ?_)).trans (h.block k hk h1 h2)
    rcases h.own k e with e' | e'
    · exact h2 e'
    · omega
  · rcases h'.own g hg with e | e
    · exact h.own g e
    · exact Or.inr (by omega)
theorem Fr.toBelow {B O : Nat} {v v' : Value} {a w : World} (h : Fr B O v a w v') {k : Nat} (hk : k ≤ B) (hO : k ≤ O) (hv : ∀ g, v.ownBlock = some g → k ≤ g) : Below k a w :=
  ⟨h.os, h.tape, h.output, h.size, fun i hi => h.block i (by omega) (by omega) (fun e => by have := hv i e; omega)⟩

theorem Zs.belowK {w w' : World} {zp : Addr} {k : Nat} (h : Zs w zp) (hk : 2 ≤ k) (hb : Below k w w') : Zs w' zp := by
  obtain ⟨h1, h2, h3, h4⟩ := h
  have hz := hb.size
  exact ⟨(hb.cell (p := ⟨0, 0, none⟩) (by show 0 < k; omega)).trans h1, (hb.cell (p := ⟨1, 0, none⟩) (by show 1 < k; omega)).trans h2, by omega, by omega⟩

def flat8 (l : List (Int × Int)) : List Value := l.flatMap enc8
theorem flat8_snoc (l : List (Int × Int)) (x : Int × Int) : flat8 (l ++ [x]) = flat8 l ++ enc8 x := by simp [flat8]
/-- The slice at O holds L, in a row of its own. -/
def Out (w : World) (O : Nat) (v : Value) (L : List (Int × Int)) : Prop := w.cell? ⟨O, 0, none⟩ = some v ∧ w.frozen? ⟨O, 0, none⟩ = false ∧ w.ownsRow (O + 1) 37 8 v L.length (flat8 L) ∧ O + 1 ≤ w.heap.size
theorem Out.own {w : World} {O : Nat} {v : Value} {L : List (Int × Int)} (h : Out w O v L) : ∀ g, v.ownBlock = some g → O + 1 ≤ g ∧ g < w.heap.size := fun g hg => h.2.2.1.lt g hg
theorem ownsRow_block {w w' : World} {base : Nat} {e : TypeId} {size : Nat} {v : Value} {n : Nat} {xs : List Value} (h : w.ownsRow base e size v n xs) (hb : ∀ g, v.ownBlock = some g → w'.heap[g]? = w.heap[g]?) : w'.ownsRow base e size v n xs := by
  obtain ⟨h1, h | ⟨g, cap, cur, rfl, e2, e3, e4⟩⟩ := h
  · exact ⟨h1, Or.inl h⟩
  · exact ⟨h1, Or.inr ⟨g, cap, cur, rfl, e2, (hb g rfl).trans e3, e4⟩⟩
theorem Out.below {w w' : World} {O : Nat} {v : Value} {L : List (Int × Int)} (h : Out w O v L) (hb : Below w.heap.size w w') : Out w' O v L := by
  have ho := h.own
  obtain ⟨h1, h2, h3, h4⟩ := h
  have := hb.size
  exact ⟨(hb.cell (p := ⟨O, 0, none⟩) (by show O < _; omega)).trans h1, (hb.frozen (p := ⟨O, 0, none⟩) (by show O < _; omega)).trans h2, ownsRow_block h3 (fun g hg => hb.block g (ho g hg).2), by omega⟩

/-- What walk leaves. -/
def Wk (w : World) (O : Nat) (v : Value) (L0 l : List (Int × Int)) (w' : World) : Prop := ∃ v', Out w' O v' (L0 ++ l) ∧ Fr w.heap.size O v w w' v'
def rv (l : List (Int × Int)) : Int := if l = [] then 0 else mxL l
theorem rv_N (l : List (Int × Int)) (h : allL l) : isN (rv l) := by
  unfold rv; split
  · exact ⟨by omega, by omega⟩
  · exact mxL_N l h (by assumption)

def new4 (u : World) (a0 a1 a2 a3 : Int) : World := (((((u.alloc (.cells #[.int .u8 0, .int .u8 0, .int .u8 0, .int .u8 0] 35)).setCell ⟨u.heap.size, 0, none⟩ (.int .u8 a0)).setCell ⟨u.heap.size, 1, none⟩ (.int .u8 a1)).setCell ⟨u.heap.size, 2, none⟩ (.int .u8 a2)).setCell ⟨u.heap.size, 3, none⟩ (.int .u8 a3))
theorem new4_eq (u : World) (a0 a1 a2 a3 : Int) : (((((u.alloc (.cells #[.int .u8 0, .int .u8 0, .int .u8 0, .int .u8 0] 35)).setCell ⟨u.heap.size, 0, none⟩ (.int .u8 a0)).setCell ⟨u.heap.size, 1, none⟩ (.int .u8 a1)).setCell ⟨u.heap.size, 2, none⟩ (.int .u8 a2)).setCell ⟨u.heap.size, 3, none⟩ (.int .u8 a3)) = new4 u a0 a1 a2 a3 := rfl
/-- Four cells. -/
def Is4 (w : World) (B o : Nat) (a0 a1 a2 a3 : Int) : Prop := w.cell? ⟨B, o, none⟩ = some (.int .u8 a0) ∧ w.cell? ⟨B, o + 1, none⟩ = some (.int .u8 a1) ∧ w.cell? ⟨B, o + 2, none⟩ = some (.int .u8 a2) ∧ w.cell? ⟨B, o + 3, none⟩ = some (.int .u8 a3)
theorem Is4.block {w w' : World} {B o : Nat} {a0 a1 a2 a3 : Int} (h : Is4 w B o a0 a1 a2 a3) (hb : w'.heap[B]? = w.heap[B]?) : Is4 w' B o a0 a1 a2 a3 := by
  have e : ∀ j, w'.cell? ⟨B, j, none⟩ = w.cell? ⟨B, j, none⟩ := fun j => World.cell?_of_block (a := ⟨B, j, none⟩) hb
  unfold Is4 at *
  simp only [e]; exact h
theorem new4_is (u : World) (a0 a1 a2 a3 : Int) : Below u.heap.size u (new4 u a0 a1 a2 a3) ∧ Is4 (new4 u a0 a1 a2 a3) u.heap.size 0 a0 a1 a2 a3 ∧ (new4 u a0 a1 a2 a3).heap.size = u.heap.size + 1 ∧ ∀ j, (new4 u a0 a1 a2 a3).frozen? ⟨u.heap.size, j, none⟩ = false := by
  have hl := Nat.le_refl u.heap.size
  refine ⟨((((((Below.refl u.heap.size u).alloc hl _).setCell hl _).setCell hl _).setCell hl _).setCell hl _), ?_, ?_, ?_⟩
  · unfold Is4 new4
    simp [go_sem]
  · unfold new4; simp only [size_setCell]; simp
  · intro j; unfold new4; simp only [World.frozen?_setCell]; simp

def new6 (u : World) (zp : Addr) (a1 a2 : Int) : World := (((((((u.alloc (.cells #[.int .u64 0, .int .u64 0, .pointer none, .int .u64 0, .int .u64 0, .pointer none] 49)).setCell ⟨u.heap.size, 0, none⟩ (.int .u64 0)).setCell ⟨u.heap.size, 1, none⟩ (.int .u64 a1)).setCell ⟨u.heap.size, 2, none⟩ (.pointer (some zp))).setCell ⟨u.heap.size, 3, none⟩ (.int .u64 0)).setCell ⟨u.heap.size, 4, none⟩ (.int .u64 a2)).setCell ⟨u.heap.size, 5, none⟩ (.pointer (some zp)))
theorem new6_eq (u : World) (zp : Addr) (a1 a2 : Int) : (((((((u.alloc (.cells #[.int .u64 0, .int .u64 0, .pointer none, .int .u64 0, .int .u64 0, .pointer none] 49)).setCell ⟨u.heap.size, 0, none⟩ (.int .u64 0)).setCell ⟨u.heap.size, 1, none⟩ (.int .u64 a1)).setCell ⟨u.heap.size, 2, none⟩ (.pointer (some zp))).setCell ⟨u.heap.size, 3, none⟩ (.int .u64 0)).setCell ⟨u.heap.size, 4, none⟩ (.int .u64 a2)).setCell ⟨u.heap.size, 5, none⟩ (.pointer (some zp))) = new6 u zp a1 a2 := rfl
theorem new6_is (u : World) (zp : Addr) (a1 a2 : Int) : Below u.heap.size u (new6 u zp a1 a2) ∧ six (new6 u zp a1 a2) u.heap.size 0 zp a1 a2 ∧ (new6 u zp a1 a2).heap.size = u.heap.size + 1 := by
  have hl := Nat.le_refl u.heap.size
  refine ⟨((((((((Below.refl u.heap.size u).alloc hl _).setCell hl _).setCell hl _).setCell hl _).setCell hl _).setCell hl _).setCell hl _), ?_, ?_⟩
  · unfold six new6
    simp [go_sem]
  · unfold new6; simp only [size_setCell]; simp

def zero8 : Array Value := #[.int .u8 0, .int .u8 0, .int .u8 0, .int .u8 0, .int .u8 0, .int .u8 0, .int .u8 0, .int .u8 0]
/-- A new range's block, all zero. -/
def Za (W : World) (A : Nat) : Prop := W.heap[A]? = some (.cells zero8 37 (0, 0))
def Zc (W : World) (A : Nat) : Prop := (W.cell? ⟨A, 0, none⟩ = some (.int .u8 0) ∧ W.cell? ⟨A, 1, none⟩ = some (.int .u8 0) ∧ W.cell? ⟨A, 2, none⟩ = some (.int .u8 0) ∧ W.cell? ⟨A, 3, none⟩ = some (.int .u8 0) ∧ W.cell? ⟨A, 4, none⟩ = some (.int .u8 0) ∧ W.cell? ⟨A, 5, none⟩ = some (.int .u8 0) ∧ W.cell? ⟨A, 6, none⟩ = some (.int .u8 0) ∧ W.cell? ⟨A, 7, none⟩ = some (.int .u8 0)) ∧ ∀ j, W.frozen? ⟨A, j, none⟩ = false
theorem Za.cells {W : World} {A : Nat} (h : Za W A) : Zc W A := by
  have q : ∀ j, W.cell? ⟨A, j, none⟩ = zero8[j]? := fun j => cell_of_row _ _ _ _ _ _ h
  exact ⟨⟨q 0, q 1, q 2, q 3, q 4, q 5, q 6, q 7⟩, fun j => frozen_of_row _ _ _ _ _ h⟩
theorem Za.new (W : World) : Za (W.alloc (.cells #[.int .u8 0, .int .u8 0, .int .u8 0, .int .u8 0, .int .u8 0, .int .u8 0, .int .u8 0, .int .u8 0] 37)) W.heap.size := heap_alloc_new _ _
theorem Za.below {W W' : World} {A k : Nat} (h : Za W A) (hb : Below k W W') (hk : A < k) : Za W' A := (hb.block A hk).trans h
def put8 (W : World) (A : Nat) (d0 d1 d2 d3 e0 e1 e2 e3 : Int) : World := ((((((((W.setCell ⟨A, 0, none⟩ (.int .u8 d0)).setCell ⟨A, 1, none⟩ (.int .u8 d1)).setCell ⟨A, 2, none⟩ (.int .u8 d2)).setCell ⟨A, 3, none⟩ (.int .u8 d3)).setCell ⟨A, 4, none⟩ (.int .u8 e0)).setCell ⟨A, 5, none⟩ (.int .u8 e1)).setCell ⟨A, 6, none⟩ (.int .u8 e2)).setCell ⟨A, 7, none⟩ (.int .u8 e3))
def Row8 (W : World) (A : Nat) (d0 d1 d2 d3 e0 e1 e2 e3 : Int) : Prop := W.heap[A]? = some (.cells #[.int .u8 d0, .int .u8 d1, .int .u8 d2, .int .u8 d3, .int .u8 e0, .int .u8 e1, .int .u8 e2, .int .u8 e3] 37 (0, 0))
theorem heap_setCell_row {W : World} {A : Nat} {cs : Array Value} {t : TypeId} {fr : Nat × Nat} (h : W.heap[A]? = some (.cells cs t fr)) (j : Nat) (v : Value) : (W.setCell ⟨A, j, none⟩ v).heap[A]? = some (.cells (cs.setIfInBounds j v) t fr) := by
  simp [World.setCell, Array.getElem?_modify, h]
theorem Za.put {W : World} {A : Nat} (h : Za W A) (d0 d1 d2 d3 e0 e1 e2 e3 : Int) : Row8 (put8 W A d0 d1 d2 d3 e0 e1 e2 e3) A d0 d1 d2 d3 e0 e1 e2 e3 := by
  unfold Za at h
  have h0 := heap_setCell_row h 0 (.int .u8 d0)
  have h1 := heap_setCell_row h0 1 (.int .u8 d1)
  have h2 := heap_setCell_row h1 2 (.int .u8 d2)
  have h3 := heap_setCell_row h2 3 (.int .u8 d3)
  have h4 := heap_setCell_row h3 4 (.int .u8 e0)
  have h5 := heap_setCell_row h4 5 (.int .u8 e1)
  have h6 := heap_setCell_row h5 6 (.int .u8 e2)
  have h7 := heap_setCell_row h6 7 (.int .u8 e3)
  unfold Row8 put8
  rw [h7]
  simp [zero8]
theorem below_put8 {W u : World} {A k : Nat} (hk : k ≤ A) (h : Below k u W) (d0 d1 d2 d3 e0 e1 e2 e3 : Int) : Below k u (put8 W A d0 d1 d2 d3 e0 e1 e2 e3) := (((((((h.setCell hk _).setCell hk _).setCell hk _).setCell hk _).setCell hk _).setCell hk _).setCell hk _).setCell hk _
theorem size_put8 (W : World) (A : Nat) (d0 d1 d2 d3 e0 e1 e2 e3 : Int) : (put8 W A d0 d1 d2 d3 e0 e1 e2 e3).heap.size = W.heap.size := by unfold put8; simp only [size_setCell]

theorem bytes4 (n : Int) : ∃ a0 a1 a2 a3 : Int, arr4 n = [.int .u8 a0, .int .u8 a1, .int .u8 a2, .int .u8 a3] := ⟨_, _, _, _, rfl⟩
theorem info37 : (Tryd.prog.info? 37).map (fun i => (i.zero, i.size, i.bytes)) = some (some (.agg #[.int .u8 0, .int .u8 0, .int .u8 0, .int .u8 0, .int .u8 0, .int .u8 0, .int .u8 0, .int .u8 0]), 8, 8) := by kernel_rfl
end Go.Proofs.Qxb6609544aDoor
