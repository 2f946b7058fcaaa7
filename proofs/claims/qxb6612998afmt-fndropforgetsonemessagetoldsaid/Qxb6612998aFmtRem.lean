import Derived.Test.Qxb6612998aFmtRing
namespace Go.Proofs.Qxb6612998aFmt
open Go.RowKit Go.Sort

theorem froz_of {w : World} {A : Nat} {cs : Array Value} {t : TypeId} (h : w.heap[A]? = some (.cells cs t (0, 0))) : ∀ j, w.frozen? ⟨A, j, none⟩ = false := fun _ => frozen_of_row _ _ _ _ _ h
theorem cell_of {w : World} {A : Nat} {cs : Array Value} {t : TypeId} (h : w.heap[A]? = some (.cells cs t (0, 0))) (j : Nat) : w.cell? ⟨A, j, none⟩ = cs[j]? := cell_of_row _ _ _ _ _ _ h

/-- list.remove on the ring. -/
theorem listRemove_any {w : World} {R : Nat} {es pas : List Nat} {mx lt lim : Int} {mp : Option Nat} {rn rp : Option Addr} {n cost : Int} (hr : Ring w R es pas) (ho : Root w R mx lt lim mp rn rp n cost) (j : Nat) (hj : j < es.length) (hn : 1 ≤ n ∧ n ≤ 4611686018427387904) :
    Calls Tryf.prog 44 #[.pointer (some ⟨R, 4, none⟩), .pointer (some ⟨es[j], 0, none⟩)] w fun e w' => e = .returned (.tuple #[]) ∧ w' = remW (w.drewN 2) R es[j] (At R es j) (At R es (j + 2)) (n - 1) := by
  have hE := hr.getE j hj
  have hER : ∀ i (h : i < es.length), es[i] ≠ R := fun i h => tag_ne (hr.getE i h) ho (by decide)
  have hE0 : w.cell? ⟨es[j], 0, none⟩ = some (.pointer (some (At R es (j + 2)))) := cell_of hE 0
  have hE1 : w.cell? ⟨es[j], 1, none⟩ = some (.pointer (some (At R es j))) := cell_of hE 1
  have hE2 : w.cell? ⟨es[j], 2, none⟩ = some (.pointer (some ⟨R, 4, none⟩)) := cell_of hE 2
  have h4 : w.cell? ⟨R, 4, none⟩ = some (.pointer rn) := cell_of ho 4
  have h5 : w.cell? ⟨R, 5, none⟩ = some (.pointer rp) := cell_of ho 5
  have h8 : w.cell? ⟨R, 8, none⟩ = some (.int .i64 n) := cell_of ho 8
  by_cases hp : j = 0
  · have ep : At R es j = ⟨R, 4, none⟩ := by rw [hp]; rfl
    by_cases hx : j + 1 < es.length
    · have en : At R es (j + 2) = ⟨es[j + 1], 0, none⟩ := At_el R es (j + 1) hx
      rw [ep] at hE1 ⊢
      rw [en] at hE0 ⊢
      exact remove_re R es[j] es[j + 1] n w _ _ _ hn hE0 hE1 hE2 h4 (cell_of (hr.getE (j + 1) hx) 1) h8 (froz_of ho) (froz_of hE) (froz_of (hr.getE (j + 1) hx)) (hER j hj) (hr.ne hj hx (by omega)) (hER (j + 1) hx)
    · have en : At R es (j + 2) = ⟨R, 4, none⟩ := At_end R es (j + 1) (by omega)
      rw [ep] at hE1 ⊢
      rw [en] at hE0 ⊢
      exact remove_rr R es[j] n w _ _ _ hn hE0 hE1 hE2 h4 h5 h8 (froz_of ho) (froz_of hE) (hER j hj)
  · obtain ⟨i, rfl⟩ : ∃ i, j = i + 1 := ⟨j - 1, by omega⟩
    have hi : i < es.length := by omega
    have ep : At R es (i + 1) = ⟨es[i], 0, none⟩ := At_el R es i hi
    by_cases hx : i + 1 + 1 < es.length
    · have en : At R es (i + 1 + 2) = ⟨es[i + 1 + 1], 0, none⟩ := At_el R es (i + 1 + 1) hx
      rw [ep] at hE1 ⊢
      rw [en] at hE0 ⊢
      exact remove_ee R es[i + 1] es[i] es[i + 1 + 1] n w _ _ _ hn hE0 hE1 hE2 (cell_of (hr.getE i hi) 0) (cell_of (hr.getE (i + 1 + 1) hx) 1) h8 (froz_of ho) (froz_of hE) (froz_of (hr.getE i hi)) (froz_of (hr.getE (i + 1 + 1) hx)) (hER (i + 1) hj) (hr.ne hj hi (by omega)) (hER i hi) (hr.ne hj hx (by omega)) (hER (i + 1 + 1) hx) (hr.ne hi hx (by omega))
    · have en : At R es (i + 1 + 2) = ⟨R, 4, none⟩ := At_end R es (i + 1 + 1) (by omega)
      rw [ep] at hE1 ⊢
      rw [en] at hE0 ⊢
      exact remove_er R es[i + 1] es[i] n w _ _ _ hn hE0 hE1 hE2 (cell_of (hr.getE i hi) 0) h5 h8 (froz_of ho) (froz_of hE) (froz_of (hr.getE i hi)) (hER (i + 1) hj) (hr.ne hj hi (by omega)) (hER i hi)

theorem rem_cell3 {w : World} {R : Nat} {es pas : List Nat} {mx lt lim : Int} {mp : Option Nat} {rn rp : Option Addr} {n cost : Int} (hr : Ring w R es pas) (ho : Root w R mx lt lim mp rn rp n cost) (j : Nat) (hj : j < es.length) (len : Int) : (remW w R es[j] (At R es j) (At R es (j + 2)) len).cell? ⟨es[j], 3, none⟩ = some (.iface 39 (.pointer (some ⟨pas.getD j 0, 0, none⟩))) := by
  have hE := hr.getE j hj
  have hER : ∀ i (h : i < es.length), es[i] ≠ R := fun i h => tag_ne (hr.getE i h) ho (by decide)
  have hp : (At R es j).block ≠ es[j] := by
    cases j with
    | zero => exact (hER 0 hj).symm
    | succ i => rw [At_el R es i (by omega)]; exact hr.ne (by omega) hj (by omega)
  have hn : (At R es (j + 2)).block ≠ es[j] := by
    by_cases h : j + 1 < es.length
    · rw [At_el R es (j + 1) h]; exact hr.ne h hj (by omega)
    · rw [At_end R es (j + 1) (by omega)]; exact (hER j hj).symm
  unfold remW
  rw [World.cell?_setCell_other _ _ _ _ (fun e => hER j hj (congrArg Addr.block e).symm), World.cell?_setCell_other _ _ _ _ (fun e => by have := congrArg Addr.off e; simp at this), World.cell?_setCell_other _ _ _ _ (fun e => by have := congrArg Addr.off e; simp at this), World.cell?_setCell_other _ _ _ _ (fun e => by have := congrArg Addr.off e; simp at this), World.cell?_setCell_other _ _ _ _ (fun e => hn (congrArg Addr.block e)), World.cell?_setCell_other _ _ _ _ (fun e => hp (congrArg Addr.block e))]
  exact cell_of hE 3
theorem Remove_any {w : World} {R : Nat} {es pas : List Nat} {mx lt lim : Int} {mp : Option Nat} {rn rp : Option Addr} {n cost : Int} (hr : Ring w R es pas) (ho : Root w R mx lt lim mp rn rp n cost) (j : Nat) (hj : j < es.length) (hn : 1 ≤ n ∧ n ≤ 4611686018427387904) :
    Calls Tryf.prog 31 #[.pointer (some ⟨R, 4, none⟩), .pointer (some ⟨es[j], 0, none⟩)] w fun e w' => e = .returned (.iface 39 (.pointer (some ⟨pas.getD j 0, 0, none⟩))) ∧ w' = remW (w.drewN 2) R es[j] (At R es j) (At R es (j + 2)) (n - 1) :=
  remove31 R es[j] _ w _ (cell_of (hr.getE j hj) 2) (rem_cell3 (w := w.drewN 2) hr ho j hj (n - 1)) (listRemove_any hr ho j hj hn)

theorem At_app (R : Nat) (es : List Nat) (E : Nat) (k : Nat) (h : k ≤ es.length) : At R (es ++ [E]) k = At R es k := by
  cases k with
  | zero => rfl
  | succ k => rw [At_el R es k (by omega), At_el R (es ++ [E]) k (by simp; omega)]; simp [show k < es.length by omega]
theorem At_new (R : Nat) (es : List Nat) (E : Nat) : At R (es ++ [E]) (es.length + 1) = ⟨E, 0, none⟩ := by rw [At_el R (es ++ [E]) es.length (by simp)]; simp
theorem eset2 (x y z v : Value) (a : Addr) : (#[x, y, z, v] : Array Value).setIfInBounds 2 (.pointer (some a)) = #[x, y, .pointer (some a), v] := by simp

/-- The ring behind PushBack. -/
theorem ring_push {w : World} {R : Nat} {es pas : List Nat} {mx lt lim : Int} {mp : Option Nat} {n cost : Int} (hr : Ring w R es pas) (ho : Root w R mx lt lim mp (some (At R es 1)) (some (At R es es.length)) n cost) (pa : Nat) (len : Int) :
    Ring (insW (w.alloc (.cells #[.pointer none, .pointer none, .pointer none, .iface 39 (.pointer (some ⟨pa, 0, none⟩))] 66)) R w.heap.size (At R es es.length) len) R (es ++ [w.heap.size]) (pas ++ [pa]) ∧
    Root (insW (w.alloc (.cells #[.pointer none, .pointer none, .pointer none, .iface 39 (.pointer (some ⟨pa, 0, none⟩))] 66)) R w.heap.size (At R es es.length) len) R mx lt lim mp (some (At R (es ++ [w.heap.size]) 1)) (some (At R (es ++ [w.heap.size]) (es ++ [w.heap.size]).length)) len cost := by
  obtain ⟨E, hE⟩ : ∃ E, E = w.heap.size := ⟨_, rfl⟩
  rw [← hE]
  have hER : ∀ i (h : i < es.length), es[i] ≠ R := fun i h => tag_ne (hr.getE i h) ho (by decide)
  have hlt : ∀ i (h : i < es.length), es[i] < E := fun i h => by rw [hE]; exact lt_of_heap (hr.getE i h)
  have hRlt : R < E := by rw [hE]; exact lt_of_heap ho
  have hpas := hr.1
  obtain ⟨W0, hW0⟩ : ∃ W, W = w.alloc (.cells #[.pointer none, .pointer none, .pointer none, .iface 39 (.pointer (some ⟨pa, 0, none⟩))] 66) := ⟨_, rfl⟩
  have b0 : ∀ k, k < E → W0.heap[k]? = w.heap[k]? := fun k hk => by rw [hW0]; exact Below.heap_alloc w _ k (by omega)
  have b0E : W0.heap[E]? = some (.cells #[.pointer none, .pointer none, .pointer none, .iface 39 (.pointer (some ⟨pa, 0, none⟩))] 66 (0, 0)) := by rw [hW0, hE]; exact heap_alloc_new _ _
  obtain ⟨ab, ao, haa, ha⟩ : ∃ ab ao, At R es es.length = ⟨ab, ao, none⟩ ∧ ((es.length = 0 ∧ ab = R ∧ ao = 4) ∨ ∃ i, es.length = i + 1 ∧ ∃ hi : i < es.length, ab = es[i] ∧ ao = 0) := by
    rcases Nat.eq_zero_or_pos es.length with h | h
    · exact ⟨R, 4, by rw [h]; rfl, Or.inl ⟨h, rfl, rfl⟩⟩
    · obtain ⟨i, hi⟩ : ∃ i, es.length = i + 1 := ⟨es.length - 1, by omega⟩
      exact ⟨es[i]'(by omega), 0, (congrArg (At R es) hi).trans (At_el R es i (by omega)), Or.inr ⟨i, hi, by omega, rfl, rfl⟩⟩
  have habE : ab ≠ E := by
    rcases ha with ⟨_, e, _⟩ | ⟨i, _, hi, e, _⟩
    · rw [e]; omega
    · rw [e]; exact Nat.ne_of_lt (hlt i hi)
  -- the element's own cells
  obtain ⟨W2, hW2⟩ : ∃ W, W = (W0.setCell ⟨E, 1, none⟩ (.pointer (some (At R es es.length)))).setCell ⟨E, 0, none⟩ (.pointer (some ⟨R, 4, none⟩)) := ⟨_, rfl⟩
  have b2 : ∀ k, k < E → W2.heap[k]? = w.heap[k]? := fun k hk => by rw [hW2, heap_set_other _ _ _ _ _ (by omega), heap_set_other _ _ _ _ _ (by omega)]; exact b0 k hk
  have b2E : W2.heap[E]? = some (.cells #[.pointer (some ⟨R, 4, none⟩), .pointer (some (At R es es.length)), .pointer none, .iface 39 (.pointer (some ⟨pa, 0, none⟩))] 66 (0, 0)) := by
    rw [hW2, heap_setCell_row (heap_setCell_row b0E 1 _) 0]; simp
  obtain ⟨W3, hW3⟩ : ∃ W, W = W2.setCell ⟨ab, ao, none⟩ (.pointer (some ⟨E, 0, none⟩)) := ⟨_, rfl⟩
  have s3 : ∀ i (h : i < es.length), W3.heap[es[i]]? = some (.cells (ecells (if i + 1 = es.length then ⟨E, 0, none⟩ else At R es (i + 2)) (At R es i) ⟨R, 4, none⟩ (pas.getD i 0)) 66 (0, 0)) := by
    intro i h
    rw [hW3]
    rcases ha with ⟨e0, e, e'⟩ | ⟨i0, e0, hi0, e, e'⟩
    · omega
    · rw [e, e']
      by_cases ci : i = i0
      · subst ci
        rw [if_pos e0.symm, heap_setCell_row ((b2 _ (hlt i h)).trans (hr.getE i h)) 0, eset0]
      · rw [heap_set_other _ _ _ _ _ (hr.ne h hi0 ci), if_neg (show ¬ i + 1 = es.length by omega)]; exact (b2 _ (hlt i h)).trans (hr.getE i h)
  have s3R : W3.heap[R]? = some (.cells (rcells mx lt lim mp (some (if es.length = 0 then ⟨E, 0, none⟩ else At R es 1)) (some (At R es es.length)) n cost) 70 (0, 0)) := by
    rw [hW3]
    rcases ha with ⟨e0, e, e'⟩ | ⟨i0, e0, hi0, e, e'⟩
    · rw [e, e', if_pos e0, heap_setCell_row ((b2 _ hRlt).trans ho) 4, rset4]
    · rw [e, e', heap_set_other _ _ _ _ _ (hER i0 hi0).symm, if_neg (show ¬ es.length = 0 by omega)]; exact (b2 _ hRlt).trans ho
  have s3E : W3.heap[E]? = W2.heap[E]? := by rw [hW3]; exact heap_set_other _ _ _ _ _ habE.symm
  have eW : insW W0 R E (At R es es.length) len = (((W3.setCell ⟨R, 5, none⟩ (.pointer (some ⟨E, 0, none⟩))).setCell ⟨E, 2, none⟩ (.pointer (some ⟨R, 4, none⟩))).setCell ⟨R, 8, none⟩ (.int .i64 len)) := by rw [hW3, hW2]; unfold insW; rw [haa]
  clear ha
  rw [← hW0, eW]
  have hRE : R ≠ E := by omega
  refine ⟨⟨by simp [hpas], ?_, fun i h => ?_⟩, ?_⟩
  · rw [List.nodup_append]
    refine ⟨hr.2.1, by simp, fun x hx y hy e => ?_⟩
    obtain ⟨i, hi, rfl⟩ := List.getElem_of_mem hx
    have := hlt i hi
    simp at hy
    omega
  · by_cases c : i < es.length
    · have e1 : (es ++ [E])[i] = es[i] := by simp [c]
      have e2 : (pas ++ [pa]).getD i 0 = pas.getD i 0 := by simp [List.getD_eq_getElem?_getD, List.getElem?_append, show i < pas.length by omega]
      rw [e1, e2, heap_set_other _ _ _ _ _ (hER i c), heap_set_other _ _ _ _ _ (Nat.ne_of_lt (hlt i c)), heap_set_other _ _ _ _ _ (hER i c), s3 i c, At_app R es E i (by omega)]
      by_cases c2 : i + 1 = es.length
      · rw [if_pos c2, show i + 2 = es.length + 1 by omega, At_new]
      · rw [if_neg c2, At_app R es E (i + 2) (by omega)]
    · have hi : i = es.length := by simp at h; omega
      subst hi
      have e1 : (es ++ [E])[es.length]'h = E := by simp
      have e2 : (pas ++ [pa]).getD es.length 0 = pa := by simp [List.getD_eq_getElem?_getD, hpas]
      have e3 : W3.heap[E]? = some (.cells #[.pointer (some ⟨R, 4, none⟩), .pointer (some (At R es es.length)), .pointer none, .iface 39 (.pointer (some ⟨pa, 0, none⟩))] 66 (0, 0)) := s3E.trans b2E
      have e4 : (W3.setCell ⟨R, 5, none⟩ (.pointer (some ⟨E, 0, none⟩))).heap[E]? = _ := (heap_set_other _ _ _ _ _ hRE.symm).trans e3
      rw [e1, e2, heap_set_other _ _ _ _ _ hRE.symm, heap_setCell_row e4 2, eset2, At_app R es E es.length (Nat.le_refl _), At_end R (es ++ [E]) (es.length + 1) (by simp)]
      rfl
  · unfold Root
    have e4 : (W3.setCell ⟨R, 5, none⟩ (.pointer (some ⟨E, 0, none⟩))).heap[R]? = _ := heap_setCell_row s3R 5 _
    rw [heap_setCell_row ((heap_set_other _ _ _ _ _ hRE).trans e4) 8, rset5, rset8]
    congr 3
    · by_cases c : es.length = 0
      · rw [if_pos c]; have := At_new R es E; rw [c] at this; exact congrArg some this.symm
      · rw [if_neg c, At_app R es E 1 (by omega)]
    · rw [List.length_append]; exact congrArg some (At_new R es E).symm
end Go.Proofs.Qxb6612998aFmt
