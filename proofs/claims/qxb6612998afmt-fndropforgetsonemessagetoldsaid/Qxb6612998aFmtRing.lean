import Derived.Test.Qxb6612998aFmtIns
import Derived.Test.Qxb6612998aFmtMap
namespace Go.Proofs.Qxb6612998aFmt
open Go.RowKit Go.Sort

/-- The k-th place of the ring: 0 and what is beyond the elements: the root. -/
def At (R : Nat) (es : List Nat) (k : Nat) : Addr := match k with
  | 0 => ⟨R, 4, none⟩
  | k + 1 => match es[k]? with
    | some e => ⟨e, 0, none⟩
    | none => ⟨R, 4, none⟩
theorem At_el (R : Nat) (es : List Nat) (k : Nat) (h : k < es.length) : At R es (k + 1) = ⟨es[k], 0, none⟩ := by simp [At, h]
theorem At_end (R : Nat) (es : List Nat) (k : Nat) (h : es.length ≤ k) : At R es (k + 1) = ⟨R, 4, none⟩ := by simp [At, h]
theorem At_erase (R : Nat) (es : List Nat) (j : Nat) (k : Nat) : At R (es.eraseIdx j) k = if k ≤ j then At R es k else At R es (k + 1) := by
  cases k with
  | zero => simp [At]
  | succ k =>
    simp only [At, List.getElem?_eraseIdx]
    by_cases h : k < j
    · rw [if_pos h, if_pos (by omega)]
    · rw [if_neg h, if_neg (by omega)]

/-- An element's cells. -/
def ecells (nx pv R : Addr) (pa : Nat) : Array Value := #[.pointer (some nx), .pointer (some pv), .pointer (some R), .iface 39 (.pointer (some ⟨pa, 0, none⟩))]
def rcells (mx lt lim : Int) (mp : Option Nat) (rn rp : Option Addr) (n cost : Int) : Array Value := #[.int .i64 mx, .int .i64 lt, .int .i64 lim, .map mp, .pointer rn, .pointer rp, .pointer none, .nilIface, .int .i64 n, .int .i64 cost]
/-- The elements of the ring: es their blocks, pas the partials'. -/
def Ring (w : World) (R : Nat) (es pas : List Nat) : Prop := es.length = pas.length ∧ es.Nodup ∧ ∀ j (h : j < es.length), w.heap[es[j]]? = some (.cells (ecells (At R es (j + 2)) (At R es j) ⟨R, 4, none⟩ (pas.getD j 0)) 66 (0, 0))
def Root (w : World) (R : Nat) (mx lt lim : Int) (mp : Option Nat) (rn rp : Option Addr) (n cost : Int) : Prop := w.heap[R]? = some (.cells (rcells mx lt lim mp rn rp n cost) 70 (0, 0))

theorem tag_ne {w : World} {A B : Nat} {a b : Array Value} {t u : TypeId} (hA : w.heap[A]? = some (.cells a t (0, 0))) (hB : w.heap[B]? = some (.cells b u (0, 0))) (h : t ≠ u) : A ≠ B := by
  rintro rfl
  rw [hA] at hB
  injection hB with hB
  injection hB with _ hB
  exact h hB
theorem heap_set_other (w : World) (A j : Nat) (v : Value) (B : Nat) (h : B ≠ A) : (w.setCell ⟨A, j, none⟩ v).heap[B]? = w.heap[B]? := Below.heap_setCell w ⟨A, j, none⟩ v B h
theorem lt_of_heap {w : World} {A : Nat} {o : Obj} (h : w.heap[A]? = some o) : A < w.heap.size := by
  rcases Nat.lt_or_ge A w.heap.size with h' | h'
  · exact h'
  · rw [Array.getElem?_eq_none h'] at h; cases h

/-- What list.remove leaves, block by block. -/
theorem rem_heap {w : World} {R E : Nat} {p n : Addr} {len : Int} {B : Nat} (h1 : B ≠ p.block) (h2 : B ≠ n.block) (h3 : B ≠ E) (h4 : B ≠ R) : (remW w R E p n len).heap[B]? = w.heap[B]? := by
  unfold remW
  rw [heap_set_other _ _ _ _ _ h4, heap_set_other _ _ _ _ _ h3, heap_set_other _ _ _ _ _ h3, heap_set_other _ _ _ _ _ h3, heap_set_other _ _ _ _ _ h2, heap_set_other _ _ _ _ _ h1]
theorem Ring.getE {w : World} {R : Nat} {es pas : List Nat} (h : Ring w R es pas) (j : Nat) (hj : j < es.length) : w.heap[es[j]]? = some (.cells (ecells (At R es (j + 2)) (At R es j) ⟨R, 4, none⟩ (pas.getD j 0)) 66 (0, 0)) := h.2.2 j hj

theorem Ring.ne {w : World} {R : Nat} {es pas : List Nat} (h : Ring w R es pas) {i j : Nat} (hi : i < es.length) (hj : j < es.length) (hij : i ≠ j) : es[i] ≠ es[j] := by
  have hp := List.pairwise_iff_getElem.1 h.2.1
  rcases Nat.lt_or_gt_of_ne hij with c | c
  · exact hp i j hi hj c
  · exact (hp j i hj hi c).symm

theorem eset0 (nx pv R x : Addr) (pa : Nat) : (ecells nx pv R pa).setIfInBounds 0 (.pointer (some x)) = ecells x pv R pa := by simp [ecells]
theorem eset1 (nx pv R x : Addr) (pa : Nat) : (ecells nx pv R pa).setIfInBounds 1 (.pointer (some x)) = ecells nx x R pa := by simp [ecells]
theorem rset4 (mx lt lim : Int) (mp : Option Nat) (rn rp : Option Addr) (n cost : Int) (x : Option Addr) : (rcells mx lt lim mp rn rp n cost).setIfInBounds 4 (.pointer x) = rcells mx lt lim mp x rp n cost := by simp [rcells]
theorem rset5 (mx lt lim : Int) (mp : Option Nat) (rn rp : Option Addr) (n cost : Int) (x : Option Addr) : (rcells mx lt lim mp rn rp n cost).setIfInBounds 5 (.pointer x) = rcells mx lt lim mp rn x n cost := by simp [rcells]
theorem rset8 (mx lt lim : Int) (mp : Option Nat) (rn rp : Option Addr) (n cost : Int) (x : Int) : (rcells mx lt lim mp rn rp n cost).setIfInBounds 8 (.int .i64 x) = rcells mx lt lim mp rn rp x cost := by simp [rcells]
theorem rset9 (mx lt lim : Int) (mp : Option Nat) (rn rp : Option Addr) (n cost : Int) (x : Int) : (rcells mx lt lim mp rn rp n cost).setIfInBounds 9 (.int .i64 x) = rcells mx lt lim mp rn rp n x := by simp [rcells]
theorem rset3 (mx lt lim : Int) (mp : Option Nat) (rn rp : Option Addr) (n cost : Int) (x : Option Nat) : (rcells mx lt lim mp rn rp n cost).setIfInBounds 3 (.map x) = rcells mx lt lim x rn rp n cost := by simp [rcells]

/-- The ring behind list.remove of its j-th element. -/
theorem ring_remove {w : World} {R : Nat} {es pas : List Nat} {mx lt lim : Int} {mp : Option Nat} {n cost : Int} (hr : Ring w R es pas) (ho : Root w R mx lt lim mp (some (At R es 1)) (some (At R es es.length)) n cost) (j : Nat) (hj : j < es.length) (len : Int) :
    Ring (remW w R es[j] (At R es j) (At R es (j + 2)) len) R (es.eraseIdx j) (pas.eraseIdx j) ∧
    Root (remW w R es[j] (At R es j) (At R es (j + 2)) len) R mx lt lim mp (some (At R (es.eraseIdx j) 1)) (some (At R (es.eraseIdx j) (es.eraseIdx j).length)) len cost := by
  have hlen : (es.eraseIdx j).length = es.length - 1 := by rw [List.length_eraseIdx, if_pos hj]
  have hER : ∀ i (h : i < es.length), es[i] ≠ R := fun i h => tag_ne (hr.getE i h) ho (by decide)
  have hpas := hr.1
  -- the place before and the place behind
  obtain ⟨pb, po, hpa, hp⟩ : ∃ pb po, At R es j = ⟨pb, po, none⟩ ∧ ((j = 0 ∧ pb = R ∧ po = 4) ∨ ∃ i, j = i + 1 ∧ ∃ hi : i < es.length, pb = es[i] ∧ po = 0) := by
    cases j with
    | zero => exact ⟨R, 4, rfl, Or.inl ⟨rfl, rfl, rfl⟩⟩
    | succ i => exact ⟨es[i]'(by omega), 0, At_el R es i (by omega), Or.inr ⟨i, rfl, by omega, rfl, rfl⟩⟩
  obtain ⟨nb, no, hna, hn⟩ : ∃ nb no, At R es (j + 2) = ⟨nb, no, none⟩ ∧ ((j + 1 = es.length ∧ nb = R ∧ no = 4) ∨ ∃ h : j + 1 < es.length, nb = es[j + 1] ∧ no = 0) := by
    by_cases h : j + 1 < es.length
    · exact ⟨es[j + 1], 0, At_el R es (j + 1) h, Or.inr ⟨h, rfl, rfl⟩⟩
    · exact ⟨R, 4, At_end R es (j + 1) (by omega), Or.inl ⟨by omega, rfl, rfl⟩⟩
  have hEj : ∀ i (h : i < es.length), i ≠ j → es[i] ≠ es[j] := fun i h c => hr.ne h hj c
  obtain ⟨W1, hW1⟩ : ∃ W, W = w.setCell ⟨pb, po, none⟩ (.pointer (some (At R es (j + 2)))) := ⟨_, rfl⟩
  obtain ⟨W2, hW2⟩ : ∃ W, W = W1.setCell ⟨nb, no + 1, none⟩ (.pointer (some (At R es j))) := ⟨_, rfl⟩
  have s1 : ∀ i (h : i < es.length), i ≠ j → W1.heap[es[i]]? = some (.cells (ecells (if i + 1 = j then At R es (j + 2) else At R es (i + 2)) (At R es i) ⟨R, 4, none⟩ (pas.getD i 0)) 66 (0, 0)) := by
    intro i h c
    rw [hW1]
    rcases hp with ⟨e0, e, e'⟩ | ⟨i0, e0, hi0, e, e'⟩
    · rw [e, e', heap_set_other _ _ _ _ _ (hER i h), if_neg (by omega)]; exact hr.getE i h
    · rw [e, e']
      by_cases ci : i = i0
      · subst ci
        rw [if_pos e0.symm, heap_setCell_row (hr.getE i h) 0, eset0]
      · rw [heap_set_other _ _ _ _ _ (hr.ne h hi0 ci), if_neg (by omega)]; exact hr.getE i h
  have s1R : W1.heap[R]? = some (.cells (rcells mx lt lim mp (some (if j = 0 then At R es (j + 2) else At R es 1)) (some (At R es es.length)) n cost) 70 (0, 0)) := by
    rw [hW1]
    rcases hp with ⟨e0, e, e'⟩ | ⟨i0, e0, hi0, e, e'⟩
    · rw [e, e', if_pos e0, heap_setCell_row ho 4, rset4]
    · rw [e, e', heap_set_other _ _ _ _ _ (hER i0 hi0).symm, if_neg (by omega)]; exact ho
  have s2 : ∀ i (h : i < es.length), i ≠ j → W2.heap[es[i]]? = some (.cells (ecells (if i + 1 = j then At R es (j + 2) else At R es (i + 2)) (if i = j + 1 then At R es j else At R es i) ⟨R, 4, none⟩ (pas.getD i 0)) 66 (0, 0)) := by
    intro i h c
    rw [hW2]
    rcases hn with ⟨e0, e, e'⟩ | ⟨h1, e, e'⟩
    · rw [e, e', heap_set_other _ _ _ _ _ (hER i h), if_neg (show ¬ i = j + 1 by omega)]; exact s1 i h c
    · rw [e, e']
      by_cases ci : i = j + 1
      · subst ci
        rw [if_pos rfl, heap_setCell_row (s1 (j + 1) h c) 1, eset1]
      · rw [heap_set_other _ _ _ _ _ (hr.ne h h1 ci), if_neg ci]; exact s1 i h c
  have s2R : W2.heap[R]? = some (.cells (rcells mx lt lim mp (some (if j = 0 then At R es (j + 2) else At R es 1)) (some (if j + 1 = es.length then At R es j else At R es es.length)) n cost) 70 (0, 0)) := by
    rw [hW2]
    rcases hn with ⟨e0, e, e'⟩ | ⟨h1, e, e'⟩
    · rw [e, e', if_pos e0, heap_setCell_row s1R 5, rset5]
    · rw [e, e', heap_set_other _ _ _ _ _ (hER (j + 1) h1).symm, if_neg (show ¬ j + 1 = es.length by omega)]; exact s1R
  clear hp hn
  have eW : remW w R es[j] (At R es j) (At R es (j + 2)) len = (((W2.setCell ⟨es[j], 0, none⟩ (.pointer none)).setCell ⟨es[j], 1, none⟩ (.pointer none)).setCell ⟨es[j], 2, none⟩ (.pointer none)).setCell ⟨R, 8, none⟩ (.int .i64 len) := by rw [hW2, hW1]; unfold remW; rw [hpa, hna]
  rw [eW]
  refine ⟨⟨by rw [hlen, List.length_eraseIdx, if_pos (by omega)]; omega, hr.2.1.eraseIdx _, fun i h => ?_⟩, ?_⟩
  · have hg : (es.eraseIdx j)[i] = if h' : i < j then es[i]'(by omega) else es[i + 1]'(by omega) := by rw [List.getElem_eraseIdx]
    have hpg : (pas.eraseIdx j).getD i 0 = if i < j then pas.getD i 0 else pas.getD (i + 1) 0 := by
      simp only [List.getD_eq_getElem?_getD, List.getElem?_eraseIdx]
      split <;> rfl
    rw [hpg, At_erase, At_erase]
    by_cases c : i < j
    · have e1 : (es.eraseIdx j)[i] = es[i]'(by omega) := by rw [hg, dif_pos c]
      rw [e1, heap_set_other _ _ _ _ _ (hER i (by omega)), heap_set_other _ _ _ _ _ (hEj i (by omega) (by omega)), heap_set_other _ _ _ _ _ (hEj i (by omega) (by omega)), heap_set_other _ _ _ _ _ (hEj i (by omega) (by omega)), s2 i (by omega) (by omega), if_neg (show ¬ i = j + 1 by omega), if_pos c, if_pos (show i ≤ j by omega)]
      by_cases c2 : i + 1 = j
      · rw [if_pos c2, if_neg (show ¬ i + 2 ≤ j by omega), show i + 2 + 1 = j + 2 by omega]
      · rw [if_neg c2, if_pos (show i + 2 ≤ j by omega)]
    · have e1 : (es.eraseIdx j)[i] = es[i + 1]'(by omega) := by rw [hg, dif_neg c]
      rw [e1, heap_set_other _ _ _ _ _ (hER (i + 1) (by omega)), heap_set_other _ _ _ _ _ (hEj (i + 1) (by omega) (by omega)), heap_set_other _ _ _ _ _ (hEj (i + 1) (by omega) (by omega)), heap_set_other _ _ _ _ _ (hEj (i + 1) (by omega) (by omega)), s2 (i + 1) (by omega) (by omega), if_neg (show ¬ i + 1 + 1 = j by omega), if_neg c, if_neg (show ¬ i + 2 ≤ j by omega)]
      by_cases c2 : i = j
      · rw [if_pos (show i + 1 = j + 1 by omega), if_pos (show i ≤ j by omega), c2]
      · rw [if_neg (show ¬ i + 1 = j + 1 by omega), if_neg (show ¬ i ≤ j by omega)]
  · have hRj : R ≠ es[j] := (hER j hj).symm
    have h0 : ((((W2.setCell ⟨es[j], 0, none⟩ (.pointer none)).setCell ⟨es[j], 1, none⟩ (.pointer none)).setCell ⟨es[j], 2, none⟩ (.pointer none))).heap[R]? = W2.heap[R]? := by
      rw [heap_set_other _ _ _ _ _ hRj, heap_set_other _ _ _ _ _ hRj, heap_set_other _ _ _ _ _ hRj]
    unfold Root
    rw [heap_setCell_row (h0.trans s2R) 8, rset8, hlen, At_erase, At_erase]
    congr 3
    · by_cases c : j = 0
      · rw [if_pos c, if_neg (by omega), c]
      · rw [if_neg c, if_pos (by omega)]
    · by_cases c : j + 1 = es.length
      · rw [if_pos c, if_pos (by omega), show es.length - 1 = j by omega]
      · rw [if_neg c, if_neg (by omega), show es.length - 1 + 1 = es.length by omega]
end Go.Proofs.Qxb6612998aFmt
