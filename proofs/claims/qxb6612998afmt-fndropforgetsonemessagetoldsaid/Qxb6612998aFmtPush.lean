import Derived.Test.Qxb6612998aFmtExp2
namespace Go.Proofs.Qxb6612998aFmt
open Go.RowKit Go.Sort

/-- What PushBack leaves. -/
structure Pushed (w : World) (R : Nat) (es pas : List Nat) (mx lt lim : Int) (mp : Option Nat) (n cost : Int) (pa : Nat) (w' : World) : Prop where
  ring : Ring w' R (es ++ [w.heap.size]) (pas ++ [pa])
  root : Root w' R mx lt lim mp (some (At R (es ++ [w.heap.size]) 1)) (some (At R (es ++ [w.heap.size]) (es ++ [w.heap.size]).length)) (n + 1) cost
  os : w'.os = w.os
  tape : w'.tape = w.tape
  output : w'.output = w.output
  size : w'.heap.size = w.heap.size + 1
  block : ∀ k, k < w.heap.size → k ≠ R → (∀ i (h : i < es.length), k ≠ es[i]) → w'.heap[k]? = w.heap[k]?

theorem ins_frame {w : World} {R : Nat} {es : List Nat} (pa : Nat) (len : Int) :
    ∀ k, k < w.heap.size → k ≠ R → (∀ i (h : i < es.length), k ≠ es[i]) → (insW (w.alloc (.cells #[.pointer none, .pointer none, .pointer none, .iface 39 (.pointer (some ⟨pa, 0, none⟩))] 66)) R w.heap.size (At R es es.length) len).heap[k]? = w.heap[k]? := by
  intro k hk h1 h2
  have hE : k ≠ w.heap.size := by omega
  have ha : k ≠ (At R es es.length).block := by
    cases hl : es.length with
    | zero => exact h1
    | succ i => rw [At_el R es i (by omega)]; exact h2 i (by omega)
  unfold insW
  rw [heap_set_other _ _ _ _ _ h1, heap_set_other _ _ _ _ _ hE, heap_set_other _ _ _ _ _ h1, heap_set_other _ _ _ _ _ ha, heap_set_other _ _ _ _ _ hE, heap_set_other _ _ _ _ _ hE]
  exact Below.heap_alloc w _ k hk
theorem al_os (w : World) (o : Obj) : (w.alloc o).os = w.os := rfl
theorem al_tape (w : World) (o : Obj) : (w.alloc o).tape = w.tape := rfl
theorem al_output (w : World) (o : Obj) : (w.alloc o).output = w.output := rfl

theorem push_laid {w : World} {R : Nat} {es pas : List Nat} {mx lt lim : Int} {mp : Option Nat} {n cost : Int} (hr : Ring w R es pas) (ho : Root w R mx lt lim mp (some (At R es 1)) (some (At R es es.length)) n cost) (pa : Nat) (hn : 0 ≤ n ∧ n ≤ 4611686018427387904) :
    Calls Tryf.prog 47 #[.pointer (some ⟨R, 4, none⟩), .iface 39 (.pointer (some ⟨pa, 0, none⟩))] w fun e w' => e = .returned (.pointer (some ⟨w.heap.size, 0, none⟩)) ∧ Pushed w R es pas mx lt lim mp n cost pa w' := by
  have hRlt : R < w.heap.size := lt_of_heap ho
  have h4 : w.cell? ⟨R, 4, none⟩ = some (.pointer (some (At R es 1))) := cell_of ho 4
  have h5 : w.cell? ⟨R, 5, none⟩ = some (.pointer (some (At R es es.length))) := cell_of ho 5
  have h8 : w.cell? ⟨R, 8, none⟩ = some (.int .i64 n) := cell_of ho 8
  have K : Calls Tryf.prog 59 #[.pointer (some ⟨R, 4, none⟩), .iface 39 (.pointer (some ⟨pa, 0, none⟩)), .pointer (some (At R es es.length))] w fun e w' => e = .returned (.pointer (some ⟨w.heap.size, 0, none⟩)) ∧ w' = insW (w.alloc (.cells #[.pointer none, .pointer none, .pointer none, .iface 39 (.pointer (some ⟨pa, 0, none⟩))] 66)) R w.heap.size (At R es es.length) (n + 1) := by
    cases hl : es.length with
    | zero =>
      have e : At R es 0 = ⟨R, 4, none⟩ := rfl
      have h4' : w.cell? ⟨R, 4, none⟩ = some (.pointer (some ⟨R, 4, none⟩)) := by rw [h4, At_end R es 0 (by omega)]
      rw [e]
      exact insertValue_r R n ⟨pa, 0, none⟩ w _ hn hRlt h4' h5 h8 (froz_of ho)
    | succ i =>
      have hi : i < es.length := by omega
      have hE := hr.getE i hi
      have hx : w.cell? ⟨es[i], 0, none⟩ = some (.pointer (some ⟨R, 4, none⟩)) := by
        have := cell_of hE 0
        rw [this]
        show some (Value.pointer (some (At R es (i + 2)))) = _
        rw [At_end R es (i + 1) (by omega)]
      rw [At_el R es i hi]
      exact insertValue_e R es[i] n ⟨pa, 0, none⟩ w _ hn hRlt (lt_of_heap hE) (tag_ne hE ho (by decide)) hx h5 h8 (froz_of ho) (froz_of hE)
  refine Calls.mono (pushBack_any R _ _ _ w _ _ h4 h5 K) ?_
  rintro e w' ⟨rfl, rfl⟩
  obtain ⟨q1, q2⟩ := ring_push hr ho pa (n + 1)
  exact ⟨rfl, q1, q2, by unfold insW; simp only [sc_os, al_os], by unfold insW; simp only [sc_tape, al_tape], by unfold insW; simp only [sc_output, al_output], by unfold insW; simp only [size_setCell]; simp, ins_frame pa (n + 1)⟩
theorem push_new {w : World} {R : Nat} {mx lt lim : Int} {mp : Option Nat} {cost : Int} (ho : Root w R mx lt lim mp none none 0 cost) (pa : Nat) :
    Calls Tryf.prog 47 #[.pointer (some ⟨R, 4, none⟩), .iface 39 (.pointer (some ⟨pa, 0, none⟩))] w fun e w' => e = .returned (.pointer (some ⟨w.heap.size, 0, none⟩)) ∧ Pushed w R [] [] mx lt lim mp 0 cost pa w' := by
  refine Calls.mono (pushBack_new R ⟨pa, 0, none⟩ w _ _ (lt_of_heap ho) (cell_of ho 4) (cell_of ho 5) (cell_of ho 8) (froz_of ho)) ?_
  rintro e w' ⟨W, hW, rfl, rfl⟩
  have hs : W.heap.size = w.heap.size := by rw [hW]; simp only [size_setCell]
  have hoW : Root W R mx lt lim mp (some (At R [] 1)) (some (At R [] ([] : List Nat).length)) 0 cost := by
    unfold Root
    rw [hW, heap_setCell_row (heap_setCell_row (heap_setCell_row ho 4 _) 5 _) 8, rset4, rset5, rset8]; rfl
  have hrW : Ring W R [] [] := ⟨rfl, List.nodup_nil, fun j h => absurd h (by simp)⟩
  obtain ⟨q1, q2⟩ := ring_push hrW hoW pa 1
  have q3 := ins_frame (w := W) (R := R) (es := []) pa 1
  rw [hs] at q1 q2 q3
  have e0 : At R [] ([] : List Nat).length = ⟨R, 4, none⟩ := rfl
  rw [e0] at q1 q2 q3
  refine ⟨rfl, q1, q2, ?_, ?_, ?_, ?_, fun k hk h1 h2 => ?_⟩
  · unfold insW; simp only [sc_os, al_os, hW]
  · unfold insW; simp only [sc_tape, al_tape, hW]
  · unfold insW; simp only [sc_output, al_output, hW]
  · unfold insW; simp only [size_setCell]; simp [hs]
  · rw [q3 k hk h1 h2, hW, heap_set_other _ _ _ _ _ h1, heap_set_other _ _ _ _ _ h1, heap_set_other _ _ _ _ _ h1]
end Go.Proofs.Qxb6612998aFmt
