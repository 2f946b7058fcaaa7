import Derived.Test.Qxb6600706aMem
import Derived.Deep.RegionHeld3
import Derived.BigRegion
namespace Go.Proofs.Qxb6600706a
open Go.RowKit

/-- The memory of compare: the script's four slices, the lines, the marks. -/
structure CM (w : World) (sb ab tb ka kb N K : Nat) (S T : Nat → ByteArray) (A B : Nat → Bool) : Prop where
  s0 : w.cell? ⟨sb, 0, none⟩ = some (.slice (some ⟨ab, 0, none⟩) N N)
  s1 : w.cell? ⟨sb, 1, none⟩ = some (.slice (some ⟨tb, 0, none⟩) K K)
  s2 : w.cell? ⟨sb, 2, none⟩ = some (.slice (some ⟨ka, 0, none⟩) N N)
  s3 : w.cell? ⟨sb, 3, none⟩ = some (.slice (some ⟨kb, 0, none⟩) K K)
  sa : ∀ i, i < N → w.cell? ⟨ab, i, none⟩ = some (.string (S i))
  st : ∀ i, i < K → w.cell? ⟨tb, i, none⟩ = some (.string (T i))
  ca : ∀ i, i < N → w.cell? ⟨ka, i, none⟩ = some (.bool (A i))
  cb : ∀ i, i < K → w.cell? ⟨kb, i, none⟩ = some (.bool (B i))
  fa : ∀ i, w.frozen? ⟨ka, i, none⟩ = false
  fb : ∀ i, w.frozen? ⟨kb, i, none⟩ = false
  ls : sb < w.heap.size
  la : ab < w.heap.size
  lt : tb < w.heap.size
  lka : ka < w.heap.size
  lkb : kb < w.heap.size
  d0 : ka ≠ kb
  d1 : ka ≠ sb
  d2 : ka ≠ ab
  d3 : ka ≠ tb
  d4 : kb ≠ sb
  d5 : kb ≠ ab
  d6 : kb ≠ tb

/-- All but the two rows of marks is as it was. -/
structure Fr (ka kb : Nat) (w w' : World) : Prop where
  os : w'.os = w.os
  tape : w'.tape = w.tape
  output : w'.output = w.output
  size : w.heap.size ≤ w'.heap.size
  block : ∀ b, b < w.heap.size → b ≠ ka → b ≠ kb → w'.heap[b]? = w.heap[b]?

theorem Fr.refl (ka kb : Nat) (w : World) : Fr ka kb w w := ⟨rfl, rfl, rfl, Nat.le_refl _, fun _ _ _ _ => rfl⟩
theorem Fr.trans {ka kb : Nat} {a b c : World} (h : Fr ka kb a b) (k : Fr ka kb b c) : Fr ka kb a c :=
  ⟨k.os.trans h.os, k.tape.trans h.tape, k.output.trans h.output, Nat.le_trans h.size k.size, fun p h1 h2 h3 => (k.block p (Nat.lt_of_lt_of_le h1 h.size) h2 h3).trans (h.block p h1 h2 h3)⟩
theorem Fr.drewN {ka kb : Nat} {a b : World} (h : Fr ka kb a b) (q : Nat) : Fr ka kb a (b.drewN q) := ⟨h.os, h.tape, h.output, h.size, h.block⟩
theorem Fr.below {ka kb : Nat} {a b : World} (h : Below a.heap.size a b) : Fr ka kb a b := ⟨h.os, h.tape, h.output, h.size, fun p h1 _ _ => h.block p h1⟩
theorem Fr.set {ka kb : Nat} {a b : World} (h : Fr ka kb a b) (p : Addr) (v : Value) (hp : p.block = ka ∨ p.block = kb) : Fr ka kb a (b.setCell p v) := by
  have hb := (Below.refl 0 b).setCell (p := p) (Nat.zero_le _) v
  refine ⟨hb.os.trans h.os, hb.tape.trans h.tape, hb.output.trans h.output, Nat.le_trans h.size hb.size, fun q h1 h2 h3 => ?_⟩
  rw [Below.heap_setCell b p v q (by rcases hp with e | e <;> omega)]
  exact h.block q h1 h2 h3

/-- Marks are added inside the window alone. -/
def Adds (A A' : Nat → Bool) (lo hi : Int) : Prop := ∀ i : Nat, (((i : Int) < lo ∨ hi ≤ i) → A' i = A i) ∧ (A i = true → A' i = true)

theorem Adds.refl (A : Nat → Bool) (lo hi : Int) : Adds A A lo hi := fun _ => ⟨fun _ => rfl, fun h => h⟩
theorem Adds.trans {A A' A'' : Nat → Bool} {lo hi lo' hi' : Int} (h : Adds A A' lo hi) (k : Adds A' A'' lo' hi') (h1 : lo ≤ lo') (h2 : hi' ≤ hi) : Adds A A'' lo hi := fun i =>
  ⟨fun q => ((k i).1 (by omega)).trans ((h i).1 q), fun q => (k i).2 ((h i).2 q)⟩
theorem Adds.wide {A A' : Nat → Bool} {lo hi lo' hi' : Int} (h : Adds A A' lo' hi') (h1 : lo ≤ lo') (h2 : hi' ≤ hi) : Adds A A' lo hi := fun i =>
  ⟨fun q => (h i).1 (by omega), (h i).2⟩

/-- One mark is laid. -/
def mark (A : Nat → Bool) (p : Nat) : Nat → Bool := fun i => if i = p then true else A i
theorem Adds.mark {A : Nat → Bool} {lo hi : Int} (p : Nat) (h1 : lo ≤ p) (h2 : (p : Int) < hi) : Adds A (mark A p) lo hi := fun i => by
  unfold Qxb6600706a.mark
  by_cases e : i = p
  · subst e
    exact ⟨fun q => by omega, fun _ => if_pos rfl⟩
  · exact ⟨fun _ => if_neg e, fun q => by rw [if_neg e]; exact q⟩

section
variable {w : World} {sb ab tb ka kb N K : Nat} {S T : Nat → ByteArray} {A B : Nat → Bool}

theorem CM.drewN (h : CM w sb ab tb ka kb N K S T A B) (q : Nat) : CM (w.drewN q) sb ab tb ka kb N K S T A B :=
  ⟨h.s0, h.s1, h.s2, h.s3, h.sa, h.st, h.ca, h.cb, h.fa, h.fb, h.ls, h.la, h.lt, h.lka, h.lkb, h.d0, h.d1, h.d2, h.d3, h.d4, h.d5, h.d6⟩

theorem CM.below {w' : World} (h : CM w sb ab tb ka kb N K S T A B) (b : Below w.heap.size w w') : CM w' sb ab tb ka kb N K S T A B := by
  have c : ∀ (p i : Nat), p < w.heap.size → w'.cell? ⟨p, i, none⟩ = w.cell? ⟨p, i, none⟩ := fun p i hp => b.cell (p := ⟨p, i, none⟩) hp
  have f : ∀ (p i : Nat), p < w.heap.size → w'.frozen? ⟨p, i, none⟩ = w.frozen? ⟨p, i, none⟩ := fun p i hp => b.frozen (p := ⟨p, i, none⟩) hp
  have z := b.size
  exact ⟨(c _ _ h.ls).trans h.s0, (c _ _ h.ls).trans h.s1, (c _ _ h.ls).trans h.s2, (c _ _ h.ls).trans h.s3, fun i hi => (c _ _ h.la).trans (h.sa i hi), fun i hi => (c _ _ h.lt).trans (h.st i hi),
    fun i hi => (c _ _ h.lka).trans (h.ca i hi), fun i hi => (c _ _ h.lkb).trans (h.cb i hi), fun i => (f _ _ h.lka).trans (h.fa i), fun i => (f _ _ h.lkb).trans (h.fb i),
    Nat.lt_of_lt_of_le h.ls z, Nat.lt_of_lt_of_le h.la z, Nat.lt_of_lt_of_le h.lt z, Nat.lt_of_lt_of_le h.lka z, Nat.lt_of_lt_of_le h.lkb z, h.d0, h.d1, h.d2, h.d3, h.d4, h.d5, h.d6⟩

theorem size_setCell (w : World) (p : Addr) (v : Value) : (w.setCell p v).heap.size = w.heap.size := by simp [World.setCell]

theorem CM.setA (h : CM w sb ab tb ka kb N K S T A B) (p : Nat) (hp : p < N) : CM (w.setCell ⟨ka, p, none⟩ (.bool true)) sb ab tb ka kb N K S T (mark A p) B := by
  have c : ∀ (q i : Nat), ka ≠ q → (w.setCell ⟨ka, p, none⟩ (.bool true)).cell? ⟨q, i, none⟩ = w.cell? ⟨q, i, none⟩ := fun q i hq => cell_far _ _ _ _ (fun e => hq (by injection e))
  have z := size_setCell w ⟨ka, p, none⟩ (.bool true)
  refine ⟨(c _ _ h.d1).trans h.s0, (c _ _ h.d1).trans h.s1, (c _ _ h.d1).trans h.s2, (c _ _ h.d1).trans h.s3, fun i hi => (c _ _ h.d2).trans (h.sa i hi), fun i hi => (c _ _ h.d3).trans (h.st i hi),
    fun i hi => ?_, fun i hi => (c _ _ h.d0).trans (h.cb i hi), fun i => by rw [World.frozen?_setCell]; exact h.fa i, fun i => by rw [World.frozen?_setCell]; exact h.fb i,
    by rw [z]; exact h.ls, by rw [z]; exact h.la, by rw [z]; exact h.lt, by rw [z]; exact h.lka, by rw [z]; exact h.lkb, h.d0, h.d1, h.d2, h.d3, h.d4, h.d5, h.d6⟩
  unfold mark
  by_cases e : i = p
  · subst e
    rw [if_pos rfl]
    exact World.cell?_setCell_same _ _ _ (h.ca i hi)
  · rw [if_neg e, cell_far _ _ _ _ (fun q => e (by injection q with _ q2; exact q2.symm))]
    exact h.ca i hi

theorem CM.setB (h : CM w sb ab tb ka kb N K S T A B) (p : Nat) (hp : p < K) : CM (w.setCell ⟨kb, p, none⟩ (.bool true)) sb ab tb ka kb N K S T A (mark B p) := by
  have c : ∀ (q i : Nat), kb ≠ q → (w.setCell ⟨kb, p, none⟩ (.bool true)).cell? ⟨q, i, none⟩ = w.cell? ⟨q, i, none⟩ := fun q i hq => cell_far _ _ _ _ (fun e => hq (by injection e))
  have z := size_setCell w ⟨kb, p, none⟩ (.bool true)
  refine ⟨(c _ _ h.d4).trans h.s0, (c _ _ h.d4).trans h.s1, (c _ _ h.d4).trans h.s2, (c _ _ h.d4).trans h.s3, fun i hi => (c _ _ h.d5).trans (h.sa i hi), fun i hi => (c _ _ h.d6).trans (h.st i hi),
    fun i hi => (c _ _ (fun e => h.d0 e.symm)).trans (h.ca i hi), fun i hi => ?_, fun i => by rw [World.frozen?_setCell]; exact h.fa i, fun i => by rw [World.frozen?_setCell]; exact h.fb i,
    by rw [z]; exact h.ls, by rw [z]; exact h.la, by rw [z]; exact h.lt, by rw [z]; exact h.lka, by rw [z]; exact h.lkb, h.d0, h.d1, h.d2, h.d3, h.d4, h.d5, h.d6⟩
  unfold mark
  by_cases e : i = p
  · subst e
    rw [if_pos rfl]
    exact World.cell?_setCell_same _ _ _ (h.cb i hi)
  · rw [if_neg e, cell_far _ _ _ _ (fun q => e (by injection q with _ q2; exact q2.symm))]
    exact h.cb i hi
end
end Go.Proofs.Qxb6600706a
