import Derived.Test.Qxb6612998aFmtDrop
import Derived.Test.Qxb6612998aFmtByt
import Derived.Test.Qxb6612998aFmtSat
namespace Go.Proofs.Qxb6612998aFmt
open Go.RowKit Go.Sort

/-- A pending message. -/
structure Msg where
  port : Int
  seq : Int
  flags : Int
  parts : Int
  started : Int
  got : List (Int × List Int)
  gv : Value
  pA : Nat
  eA : Nat
  born : Nat
  mA : Nat
def Msg.ent (m : Msg) : Ent := ⟨m.port, m.seq, m.pA, m.born⟩
def lenS : List (Int × List Int) → Int
  | [] => 0
  | x :: r => (x.2.length : Int) + lenS r
def costS : List (Int × List Int) → Int
  | [] => 256
  | x :: r => 64 + (x.2.length : Int) + costS r
/-- The bits of the parts 64 k .. 64 k + 63. -/
def bitN (k : Int) : List (Int × List Int) → Nat
  | [] => 0
  | x :: r => bitN k r ||| (if x.1 / 64 = k then 2 ^ (x.1 % 64).toNat else 0)
def bitS (k : Int) (got : List (Int × List Int)) : Int := (bitN k got : Int)
def Msg.cost (m : Msg) : Int := costS m.got
def sumC : List Msg → Int
  | [] => 0
  | m :: r => m.cost + sumC r
def Msg.pc (m : Msg) : Array Value := pcells m.port m.seq m.flags m.parts m.gv (bitS 0 m.got) (bitS 1 m.got) (bitS 2 m.got) (bitS 3 m.got) (lenS m.got) (costS m.got) (m.started % 1000000000) (m.started / 1000000000) (some ⟨m.eA, 0, none⟩)
/-- The pieces that have come. -/
def Gv (w : World) (K0 : Nat) (gv : Value) (got : List (Int × List Int)) : Prop := ∃ xs, w.ownsRow K0 105 2 gv got.length xs ∧ ∀ i, i < got.length → xs[i * 2]? = some (.int .i64 (got.getD i (0, [])).1) ∧ ∃ v, xs[i * 2 + 1]? = some v ∧ BO w v (got.getD i (0, [])).2
def Part (w : World) (K0 : Nat) (m : Msg) : Prop := w.heap[m.pA]? = some (.cells m.pc 97 (0, 0)) ∧ K0 ≤ m.pA ∧ Gv w K0 m.gv m.got
/-- The Reassembly at R holds the messages ms, all its memory at K0 or beyond. -/
def RepR (w : World) (K0 R : Nat) (mx lt lim : Int) (ms : List Msg) : Prop := K0 ≤ R ∧ ((ms = [] ∧ Root w R mx lt lim none none none 0 0) ∨
  ∃ r clock, Root w R mx lt lim (some r) (some (At R (ms.map Msg.eA) 1)) (some (At R (ms.map Msg.eA) (ms.map Msg.eA).length)) (ms.length : Int) (sumC ms) ∧ Ring w R (ms.map Msg.eA) (ms.map Msg.pA) ∧ w.heap[r]? = some (.map ((ms.map Msg.ent).map Ent.me).toArray clock) ∧ K0 ≤ r ∧ (∀ m ∈ ms, K0 ≤ m.eA) ∧ ∀ m ∈ ms, Part w K0 m)

/-- What the Reassembly's doings leave alone: all below K0, and all rows but those of the types 70, 66, 97, 105. -/
structure FrR (K0 : Nat) (a w : World) : Prop where
  below : Below K0 a w
  keep : ∀ (k : Nat) (cs : Array Value) (t : TypeId), a.heap[k]? = some (.cells cs t (0, 0)) → t ≠ 70 → t ≠ 66 → t ≠ 97 → t ≠ 105 → w.heap[k]? = a.heap[k]?
theorem FrR.refl (K0 : Nat) (w : World) : FrR K0 w w := ⟨Below.refl _ _, fun _ _ _ _ _ _ _ _ => rfl⟩
theorem FrR.trans {K0 : Nat} {a b c : World} (h : FrR K0 a b) (h' : FrR K0 b c) : FrR K0 a c := ⟨h.below.trans h'.below, fun k cs t e e1 e2 e3 e4 => by
  have x := h.keep k cs t e e1 e2 e3 e4
  exact (h'.keep k cs t (x.trans e) e1 e2 e3 e4).trans x⟩
theorem FrR.of_gr {K0 : Nat} {a b : World} (h : Gr a b) (hk : K0 ≤ a.heap.size) : FrR K0 a b := ⟨h.below.mono hk, fun k _ _ e _ _ _ _ => h.below.block k (lt_of_heap e)⟩
theorem FrR.of_below {K0 : Nat} {a b : World} (h : Below a.heap.size a b) (hk : K0 ≤ a.heap.size) : FrR K0 a b := ⟨h.mono hk, fun k _ _ e _ _ _ _ => h.block k (lt_of_heap e)⟩

/-- Rows that a change of the types 70 and 66 alone leaves. -/
def Kp (a w : World) : Prop := ∀ (k : Nat) (cs : Array Value) (t : TypeId), a.heap[k]? = some (.cells cs t (0, 0)) → t ≠ 70 → t ≠ 66 → w.heap[k]? = a.heap[k]?
theorem ownsRow_kp {a w : World} {base : Nat} {e : TypeId} {size : Nat} {v : Value} {n : Nat} {xs : List Value} (h : a.ownsRow base e size v n xs) (hk : ∀ (k : Nat) (cs : Array Value), a.heap[k]? = some (.cells cs e (0, 0)) → w.heap[k]? = a.heap[k]?) : w.ownsRow base e size v n xs := by
  obtain ⟨h1, h | ⟨g, cap, cur, e1, e2, e3, e4⟩⟩ := h
  · exact ⟨h1, Or.inl h⟩
  · exact ⟨h1, Or.inr ⟨g, cap, cur, e1, e2, (hk g cur e3).trans e3, e4⟩⟩
theorem Gv.kp {a w : World} {K0 : Nat} {gv : Value} {got : List (Int × List Int)} (h : Gv a K0 gv got) (hk : Kp a w) : Gv w K0 gv got := by
  obtain ⟨xs, h1, h2⟩ := h
  refine ⟨xs, ownsRow_kp h1 (fun k cs e => hk k cs 105 e (by decide) (by decide)), fun i hi => ?_⟩
  obtain ⟨q1, v, q2, q3⟩ := h2 i hi
  exact ⟨q1, v, q2, q3.keep (fun k cs e => hk k cs 5 e (by decide) (by decide))⟩
theorem Part.kp {a w : World} {K0 : Nat} {m : Msg} (h : Part a K0 m) (hk : Kp a w) : Part w K0 m := ⟨(hk _ _ _ h.1 (by decide) (by decide)).trans h.1, h.2.1, h.2.2.kp hk⟩

theorem sumC_erase : ∀ (ms : List Msg) (j : Nat) (h : j < ms.length), sumC (ms.eraseIdx j) = sumC ms - (ms[j]).cost
  | m :: r, 0, _ => by simp [sumC]; omega
  | m :: r, j + 1, h => by
    have := sumC_erase r j (by simpa using h)
    simp [sumC, this]; omega
theorem map_erase {β : Type} (f : Msg → β) : ∀ (ms : List Msg) (j : Nat), (ms.eraseIdx j).map f = (ms.map f).eraseIdx j
  | [], _ => rfl
  | _ :: _, 0 => rfl
  | m :: r, j + 1 => by simp [List.eraseIdx, map_erase f r j]
theorem drew_heap (w : World) : w.drew.heap = w.heap := rfl
theorem drewN_heap (w : World) (n : Nat) : (w.drewN n).heap = w.heap := rfl
theorem sc_os (w : World) (a : Addr) (v : Value) : (w.setCell a v).os = w.os := rfl
theorem sc_tape (w : World) (a : Addr) (v : Value) : (w.setCell a v).tape = w.tape := rfl
theorem sc_output (w : World) (a : Addr) (v : Value) : (w.setCell a v).output = w.output := rfl
theorem dr_os (w : World) : w.drew.os = w.os := rfl
theorem dr_tape (w : World) : w.drew.tape = w.tape := rfl
theorem dr_output (w : World) : w.drew.output = w.output := rfl
theorem drN_os (w : World) (n : Nat) : (w.drewN n).os = w.os := rfl
theorem drN_tape (w : World) (n : Nat) : (w.drewN n).tape = w.tape := rfl
theorem drN_output (w : World) (n : Nat) : (w.drewN n).output = w.output := rfl
theorem pm_os (w : World) (r : Nat) (o : Obj) : (putM w r o).os = w.os := rfl
theorem pm_tape (w : World) (r : Nat) (o : Obj) : (putM w r o).tape = w.tape := rfl
theorem pm_output (w : World) (r : Nat) (o : Obj) : (putM w r o).output = w.output := rfl
theorem drop_heap {w : World} {R r : Nat} {es : List Nat} (j : Nat) (hj : j < es.length) (len c : Int) (o : Obj) (B : Nat) (h1 : B ≠ r) (h2 : B ≠ R) (h3 : ∀ i (h : i < es.length), B ≠ es[i]) : (dropW w R es[j] r (At R es j) (At R es (j + 2)) len c o).heap[B]? = w.heap[B]? := by
  have hAt : ∀ k, B ≠ (At R es k).block := fun k => by
    cases k with
    | zero => exact h2
    | succ k =>
      by_cases h : k < es.length
      · rw [At_el R es k h]; exact h3 k h
      · rw [At_end R es k (by omega)]; exact h2
  unfold dropW
  rw [heap_set_other _ _ _ _ _ h2, drew_heap, rem_heap (hAt j) (hAt (j + 2)) (h3 j hj) h2, drewN_heap, drew_heap, putM_other _ _ _ _ h1, drew_heap]

/-- drop, on the whole. -/
theorem rep_drop {w : World} {K0 R r clock : Nat} {mx lt lim : Int} {ms : List Msg} (hK : K0 ≤ R) (ho : Root w R mx lt lim (some r) (some (At R (ms.map Msg.eA) 1)) (some (At R (ms.map Msg.eA) (ms.map Msg.eA).length)) (ms.length : Int) (sumC ms)) (hr : Ring w R (ms.map Msg.eA) (ms.map Msg.pA)) (hm : w.heap[r]? = some (.map ((ms.map Msg.ent).map Ent.me).toArray clock)) (hKr : K0 ≤ r) (hKe : ∀ m ∈ ms, K0 ≤ m.eA) (hp : ∀ m ∈ ms, Part w K0 m) (j : Nat) (hj : j < ms.length) (hje : j < (ms.map Msg.eA).length) :
    RepR (dropW w R (ms.map Msg.eA)[j] r (At R (ms.map Msg.eA) j) (At R (ms.map Msg.eA) (j + 2)) ((ms.length : Int) - 1) (sumC ms - (ms[j]).cost) (.map (((ms.map Msg.ent).eraseIdx j).map Ent.me).toArray clock)) K0 R mx lt lim (ms.eraseIdx j) ∧ Kp w (dropW w R (ms.map Msg.eA)[j] r (At R (ms.map Msg.eA) j) (At R (ms.map Msg.eA) (j + 2)) ((ms.length : Int) - 1) (sumC ms - (ms[j]).cost) (.map (((ms.map Msg.ent).eraseIdx j).map Ent.me).toArray clock)) ∧ Below K0 w (dropW w R (ms.map Msg.eA)[j] r (At R (ms.map Msg.eA) j) (At R (ms.map Msg.eA) (j + 2)) ((ms.length : Int) - 1) (sumC ms - (ms[j]).cost) (.map (((ms.map Msg.ent).eraseIdx j).map Ent.me).toArray clock)) := by
  have hER : ∀ i (h : i < (ms.map Msg.eA).length), (ms.map Msg.eA)[i] ≠ R := fun i h => tag_ne (hr.getE i h) ho (by decide)
  have hRr : R ≠ r := by rintro rfl; unfold Root at ho; rw [hm] at ho; cases ho
  have hEr : ∀ i (h : i < (ms.map Msg.eA).length), (ms.map Msg.eA)[i] ≠ r := fun i h e => by have := hr.getE i h; rw [e, hm] at this; cases this
  obtain ⟨o, hob⟩ : ∃ o, o = Obj.map (((ms.map Msg.ent).eraseIdx j).map Ent.me).toArray clock := ⟨_, rfl⟩
  rw [← hob]
  obtain ⟨W, hW⟩ : ∃ W, W = dropW w R (ms.map Msg.eA)[j] r (At R (ms.map Msg.eA) j) (At R (ms.map Msg.eA) (j + 2)) ((ms.length : Int) - 1) (sumC ms - (ms[j]).cost) o := ⟨_, rfl⟩
  rw [← hW]
  have hkp : Kp w W := fun k cs t e e1 e2 => by
    rw [hW]
    refine drop_heap j hje _ _ _ k ?_ ?_ ?_
    · rintro rfl; rw [hm] at e; cases e
    · exact tag_ne e ho e1
    · exact fun i h => tag_ne e (hr.getE i h) e2
  have hbl : Below K0 w W := by
    have hs : w.heap.size ≤ W.heap.size := by rw [hW]; unfold dropW remW; simp only [size_setCell, drew_heap, drewN_heap, putM_size, Nat.le_refl]
    refine ⟨by rw [hW]; unfold dropW remW; simp only [sc_os, dr_os, drN_os, pm_os], by rw [hW]; unfold dropW remW; simp only [sc_tape, dr_tape, drN_tape, pm_tape], by rw [hW]; unfold dropW remW; simp only [sc_output, dr_output, drN_output, pm_output], hs, fun k hk => ?_⟩
    rw [hW]
    refine drop_heap j hje _ _ _ k (by omega) (by omega) (fun i h => ?_)
    have := hKe (ms[i]'(by simpa using h)) (List.getElem_mem _)
    simp; omega
  refine ⟨⟨hK, Or.inr ⟨r, clock, ?_⟩⟩, hkp, hbl⟩
  obtain ⟨W1, hW1⟩ : ∃ W1, W1 = ((putM w.drew r o).drew).drewN 2 := ⟨_, rfl⟩
  have b1 : ∀ k, k ≠ r → W1.heap[k]? = w.heap[k]? := fun k hk => by rw [hW1, drewN_heap, drew_heap, putM_other _ _ _ _ hk, drew_heap]
  have b1r : W1.heap[r]? = some o := by rw [hW1, drewN_heap, drew_heap]; exact putM_same o hm
  have ho1 : Root W1 R mx lt lim (some r) (some (At R (ms.map Msg.eA) 1)) (some (At R (ms.map Msg.eA) (ms.map Msg.eA).length)) (ms.length : Int) (sumC ms) := (b1 R hRr).trans ho
  have hr1 : Ring W1 R (ms.map Msg.eA) (ms.map Msg.pA) := ⟨hr.1, hr.2.1, fun i h => (b1 _ (hEr i h)).trans (hr.getE i h)⟩
  obtain ⟨hr2, ho2⟩ := ring_remove hr1 ho1 j hje ((ms.length : Int) - 1)
  obtain ⟨W2, hW2⟩ : ∃ W2, W2 = remW W1 R (ms.map Msg.eA)[j] (At R (ms.map Msg.eA) j) (At R (ms.map Msg.eA) (j + 2)) ((ms.length : Int) - 1) := ⟨_, rfl⟩
  rw [← hW2] at hr2 ho2
  have eW : W = W2.drew.setCell ⟨R, 9, none⟩ (.int .i64 (sumC ms - (ms[j]).cost)) := by rw [hW, hW2, hW1]; rfl
  have hlen : ((ms.eraseIdx j).length : Int) = (ms.length : Int) - 1 := by rw [List.length_eraseIdx, if_pos hj]; omega
  rw [map_erase, map_erase, map_erase, hlen, sumC_erase ms j hj, eW]
  have hrr : ∀ i (h : i < ((ms.map Msg.eA).eraseIdx j).length), ((ms.map Msg.eA).eraseIdx j)[i] ≠ R := fun i h => tag_ne (hr2.getE i h) ho2 (by decide)
  refine ⟨?_, ⟨hr2.1, hr2.2.1, fun i h => ?_⟩, ?_, hKr, fun m hm' => hKe m (List.mem_of_mem_eraseIdx hm'), fun m hm' => ?_⟩
  · unfold Root
    rw [heap_setCell_row (show W2.drew.heap[R]? = _ from ho2) 9, rset9]
  · rw [heap_set_other _ _ _ _ _ (hrr i h), drew_heap]; exact hr2.getE i h
  · have hAt : ∀ k, r ≠ (At R (ms.map Msg.eA) k).block := fun k => by
      cases k with
      | zero => exact hRr.symm
      | succ k =>
        by_cases h : k < (ms.map Msg.eA).length
        · rw [At_el R _ k h]; exact (hEr k h).symm
        · rw [At_end R _ k (by omega)]; exact hRr.symm
    rw [heap_set_other _ _ _ _ _ hRr.symm, drew_heap, hW2, rem_heap (hAt j) (hAt (j + 2)) (hEr j hje).symm hRr.symm, b1r, hob]
  · rw [← eW]; exact (hp m (List.mem_of_mem_eraseIdx hm')).kp hkp
end Go.Proofs.Qxb6612998aFmt
