import Derived.Test.Qxb6612998aFmtRows
import Derived.WalkKit
import Derived.WalkSpells
import Derived.WalkLawsBesides
import Derived.Deep.QuietTactic
import Derived.BigQuiet
import Derived.BigRegion
import Derived.Laws.Bits64b
import Derived.LaidEql
import Derived.LaidEqlPtr
import Derived.Lib.Builder
import Derived.Deep.RegionHeld3
import Derived.Deep.RegionLaw
import Derived.Deep.CutBlock
import Derived.Deep.DeepCutAuto
import Derived.Deep.LoopGhost
import Derived.Deep.AppendLies
import Derived.OwnWalk
import Derived.Laws.IdiomCopy
import Derived.Shelf.SlSortCmp.QuietGrown
namespace Go.Proofs.Qxb6612998aFmt
open Go.RowKit Go.Sort

theorem hide {p : Prop} (h : p) : Hid p := h
theorem unhide {p : Prop} (h : Hid p) : p := h.out
theorem ret_int {k : IntKind} {a b : Int} (h : a = b) : Ending.returned (.int k a) = .returned (.int k b) := by rw [h]
theorem hmo : Tryf.prog.follows .mixedOrders = true := by kernel_rfl

/-- w' is w after some draws, with some blocks laid behind it. -/
def Gr (w w' : World) : Prop := ∃ (q : Nat) (os : Array Obj), w' = grow (w.drewN q) os
theorem Gr.refl (w : World) : Gr w w := ⟨0, #[], by rw [grow_empty]; rfl⟩
theorem Gr.trans {a b c : World} (h1 : Gr a b) (h2 : Gr b c) : Gr a c := by
  obtain ⟨q1, o1, rfl⟩ := h1
  obtain ⟨q2, o2, rfl⟩ := h2
  exact ⟨q1 + q2, o1 ++ o2, by show grow (grow ((a.drewN q1).drewN q2) o1) o2 = _; rw [grow_grow, World.drewN_drewN]⟩
theorem Gr.alloc {a b : World} (h : Gr a b) (o : Obj) : Gr a (b.alloc o) := h.trans ⟨0, #[o], by rw [alloc_eq_grow]; rfl⟩
theorem Gr.drewN {a b : World} (h : Gr a b) (k : Nat) : Gr a (b.drewN k) := h.trans ⟨k, #[], by rw [grow_empty]⟩
theorem Gr.drew {a b : World} (h : Gr a b) : Gr a b.drew := h.drewN 1
theorem Gr.below {a b : World} (h : Gr a b) : Below a.heap.size a b := by
  obtain ⟨q, os, rfl⟩ := h
  exact ⟨rfl, rfl, rfl, by simp [grow], fun i hi => by
    show ((a.drewN q).heap ++ os)[i]? = _
    rw [Array.getElem?_append_left (by show i < a.heap.size; omega)]
    rfl⟩
theorem Gr.cell {a b : World} {p : Addr} {v : Value} (h : Gr a b) (hb : p.block < a.heap.size) (hc : a.cell? p = some v) : b.cell? p = some v := by
  obtain ⟨q, os, rfl⟩ := h
  exact cell_grown hb hc q os
theorem Gr.size {a b : World} (h : Gr a b) : a.heap.size ≤ b.heap.size := by
  obtain ⟨q, os, rfl⟩ := h
  rw [size_grow]; exact Nat.le_add_right _ _


theorem size_setCell (w : World) (a : Addr) (v : Value) : (w.setCell a v).heap.size = w.heap.size := by simp [World.setCell]
theorem heap_setCell_row {W : World} {A : Nat} {cs : Array Value} {t : TypeId} {fr : Nat × Nat} (h : W.heap[A]? = some (.cells cs t fr)) (j : Nat) (v : Value) : (W.setCell ⟨A, j, none⟩ v).heap[A]? = some (.cells (cs.setIfInBounds j v) t fr) := by
  simp [World.setCell, Array.getElem?_modify, h]
/-- All blocks but those of bs are as they were. -/
structure Ch (bs : List Nat) (a w : World) : Prop where
  os : w.os = a.os
  tape : w.tape = a.tape
  output : w.output = a.output
  size : a.heap.size ≤ w.heap.size
  block : ∀ k, k < a.heap.size → k ∉ bs → w.heap[k]? = a.heap[k]?
theorem Ch.refl (bs : List Nat) (w : World) : Ch bs w w := ⟨rfl, rfl, rfl, Nat.le_refl _, fun _ _ _ => rfl⟩
theorem Ch.trans {bs cs ds : List Nat} {a b c : World} (h : Ch bs a b) (h' : Ch cs b c) (hb : ∀ x ∈ bs, x ∈ ds) (hc : ∀ x ∈ cs, x < a.heap.size → x ∈ ds) : Ch ds a c :=
  ⟨h'.os.trans h.os, h'.tape.trans h.tape, h'.output.trans h.output, Nat.le_trans h.size h'.size, fun k hk hn => (h'.block k (Nat.lt_of_lt_of_le hk h.size) (fun e => hn (hc k e hk))).trans (h.block k hk (fun e => hn (hb k e)))⟩
theorem Ch.mono {bs ds : List Nat} {a b : World} (h : Ch bs a b) (hb : ∀ x ∈ bs, x ∈ ds) : Ch ds a b := ⟨h.os, h.tape, h.output, h.size, fun k hk hn => h.block k hk (fun e => hn (hb k e))⟩
theorem Ch.drew {bs : List Nat} {a b : World} (h : Ch bs a b) : Ch bs a b.drew := ⟨h.os, h.tape, h.output, h.size, h.block⟩
theorem Ch.drewN {bs : List Nat} {a b : World} (h : Ch bs a b) (n : Nat) : Ch bs a (b.drewN n) := ⟨h.os, h.tape, h.output, h.size, h.block⟩
theorem Ch.alloc {bs : List Nat} {a b : World} (h : Ch bs a b) (o : Obj) : Ch bs a (b.alloc o) := ⟨h.os, h.tape, h.output, by simp; have := h.size; omega, fun k hk hn => (Below.heap_alloc b o k (Nat.lt_of_lt_of_le hk h.size)).trans (h.block k hk hn)⟩
theorem Ch.setCell {bs : List Nat} {a b : World} (h : Ch bs a b) (p : Addr) (v : Value) (hp : p.block ∈ bs ∨ a.heap.size ≤ p.block) : Ch bs a (b.setCell p v) :=
  ⟨h.os, h.tape, h.output, by rw [size_setCell]; exact h.size, fun k hk hn => (Below.heap_setCell b p v k (fun e => by rcases hp with hp | hp; exact hn (e ▸ hp); omega)).trans (h.block k hk hn)⟩
theorem Ch.of_below {bs : List Nat} {a b : World} (h : Below a.heap.size a b) : Ch bs a b := ⟨h.os, h.tape, h.output, h.size, fun k hk _ => h.block k hk⟩
theorem Ch.toBelow {bs : List Nat} {a b : World} (h : Ch bs a b) {k : Nat} (hk : k ≤ a.heap.size) (hb : ∀ x ∈ bs, k ≤ x) : Below k a b := ⟨h.os, h.tape, h.output, h.size, fun i hi => h.block i (by omega) (fun e => by have := hb i e; omega)⟩
theorem Ch.cell {bs : List Nat} {a b : World} (h : Ch bs a b) {p : Addr} (hp : p.block < a.heap.size) (hn : p.block ∉ bs) : b.cell? p = a.cell? p := World.cell?_of_block (h.block _ hp hn)
theorem Ch.frozen {bs : List Nat} {a b : World} (h : Ch bs a b) {p : Addr} (hp : p.block < a.heap.size) (hn : p.block ∉ bs) : b.frozen? p = a.frozen? p := World.frozen?_of_block (h.block _ hp hn)
end Go.Proofs.Qxb6612998aFmt
