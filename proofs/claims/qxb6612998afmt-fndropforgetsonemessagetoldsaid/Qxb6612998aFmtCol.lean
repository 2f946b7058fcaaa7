import Derived.Test.Qxb6612998aFmtStp
import Derived.Test.Qxb6612998aFmtErrf
namespace Go.Proofs.Qxb6612998aFmt
open Go.RowKit Go.Sort

/-- The rows of the parts lie apart. -/
def GD (ms : List Msg) : Prop := ms.Pairwise (fun a b => ∀ k, a.gv.ownBlock = some k → b.gv.ownBlock ≠ some k)
/-- Bytes that lie below K0. -/
def BI (w : World) (K0 : Nat) (v : Value) (l : List Int) : Prop := ∃ oa c, v = .slice oa l.length c ∧ l.length ≤ c ∧ (l ≠ [] → ∃ b off, oa = some ⟨b, off, none⟩ ∧ b < K0 ∧ b < w.heap.size ∧ ∀ i, i < l.length → w.cell? ⟨b, off + i, none⟩ = some (.int .u8 (l.getD i 0)))
theorem BI.bs {w : World} {K0 : Nat} {v : Value} {l : List Int} (h : BI w K0 v l) : BS w v l := by
  obtain ⟨oa, c, e, h1, h2⟩ := h
  refine ⟨oa, c, e, h1, fun hn => ?_⟩
  obtain ⟨b, off, e1, -, e2, e3⟩ := h2 hn
  exact ⟨b, off, e1, e2, e3⟩
theorem BI.below {w w' : World} {K0 : Nat} {v : Value} {l : List Int} (h : BI w K0 v l) (hb : Below K0 w w') : BI w' K0 v l := by
  obtain ⟨oa, c, e, h1, h2⟩ := h
  refine ⟨oa, c, e, h1, fun hn => ?_⟩
  obtain ⟨b, off, e1, e0, e2, e3⟩ := h2 hn
  exact ⟨b, off, e1, e0, Nat.lt_of_lt_of_le e2 hb.size, fun i hi => (hb.cell (p := ⟨b, off + i, none⟩) e0).trans (e3 i hi)⟩
/-- Bytes that stay. -/
def BX (w : World) (K0 : Nat) (v : Value) (l : List Int) : Prop := BI w K0 v l ∨ BO w v l
theorem BX.bs {w : World} {K0 : Nat} {v : Value} {l : List Int} (h : BX w K0 v l) : BS w v l := by
  rcases h with h | h
  · exact h.bs
  · exact h.bs
theorem FrR.of_kp {K0 : Nat} {a w : World} (h : Kp a w) (hb : Below K0 a w) : FrR K0 a w := ⟨hb, fun k cs t e e1 e2 _ _ => h k cs t e e1 e2⟩

theorem BO.shape {w : World} {v : Value} {l : List Int} (h : BO w v l) : ∃ oa n c, v = .slice oa n c := by
  rcases h with ⟨oa, c, rfl, -⟩ | ⟨g, cap, cur, rfl, -⟩
  · exact ⟨_, _, _, rfl⟩
  · exact ⟨_, _, _, rfl⟩
/-- What the append of a part leaves. -/
structure Put16 (W : World) (K0 : Nat) (m : Msg) (part : Int) (data : List Int) (wa : World) (v' : Value) : Prop where
  a1 : wa.os = W.os ∧ wa.tape = W.tape ∧ wa.output = W.output ∧ W.heap.size ≤ wa.heap.size
  a2 : ∀ k, k < W.heap.size → some k ≠ m.gv.ownBlock → wa.heap[k]? = W.heap[k]?
  b : Gv wa K0 v' (m.got ++ [(part, data)])
  c : v'.ownBlock = m.gv.ownBlock ∨ ∃ k, v'.ownBlock = some k ∧ W.heap.size ≤ k
  e : ∃ oa c, v' = .slice oa (m.got.length + 1) c
theorem Gv.own {w : World} {K0 : Nat} {gv : Value} {got : List (Int × List Int)} (h : Gv w K0 gv got) : ∀ k, gv.ownBlock = some k → K0 ≤ k ∧ ∃ cs, w.heap[k]? = some (.cells cs 105 (0, 0)) := fun k hk => by
  obtain ⟨xs, ⟨-, ⟨e1, -⟩ | ⟨g, cap, cur, e1, e2, e3, -⟩⟩, -⟩ := h
  · rw [e1] at hk; cases hk
  · rw [e1] at hk
    obtain rfl : g = k := by simpa [Value.ownBlock] using hk
    exact ⟨e2, cur, e3⟩
theorem put16 {W w8 w10 : World} {K0 : Nat} {m : Msg} {part : Int} {data : List Int} {v8 : Value} {xs : List Value} {o : Obj} {g cap H : Nat} (hG : Gv W K0 m.gv m.got)
    (hx : ∀ i, i < m.got.length → xs[i * 2]? = some (.int .i64 (m.got.getD i (0, [])).1) ∧ ∃ v, xs[i * 2 + 1]? = some v ∧ BO W v (m.got.getD i (0, [])).2) (hxl : xs.length = m.got.length * 2)
    (hb : Below W.heap.size W w8) (bo : BO w8 v8 data) (hown : w10.ownsRow K0 105 2 (.slice (some ⟨g, 0, none⟩) (m.got.length + 1) cap) (m.got.length + 1) (xs ++ [.int .i64 part, v8]))
    (hgrow : (w8.alloc o).grownBy w10 m.gv.ownBlock) (hat : m.gv.ownBlock = some g ∨ g = H) (hH : W.heap.size ≤ H) : Put16 W K0 m part data w10 (.slice (some ⟨g, 0, none⟩) (m.got.length + 1) cap) := by
  have hal : ∀ k, k < w8.heap.size → (w8.alloc o).heap[k]? = w8.heap[k]? := fun k hk => Below.heap_alloc w8 o k hk
  have hsz : w8.heap.size ≤ (w8.alloc o).heap.size := by simp
  have a2 : ∀ k, k < W.heap.size → some k ≠ m.gv.ownBlock → w10.heap[k]? = W.heap[k]? := fun k hk hne => by
    have hk8 : k < w8.heap.size := Nat.lt_of_lt_of_le hk hb.size
    rw [hgrow.block k (Nat.lt_of_lt_of_le hk8 hsz) hne, hal k hk8, hb.block k hk]
  have h5 : ∀ (k : Nat) (cs : Array Value), w8.heap[k]? = some (.cells cs 5 (0, 0)) → w10.heap[k]? = w8.heap[k]? := fun k cs e => by
    have hk8 := lt_of_heap e
    rw [hgrow.block k (Nat.lt_of_lt_of_le hk8 hsz) (fun c => ?_), hal k hk8]
    obtain ⟨-, cs', e'⟩ := hG.own k c.symm
    have := (hb.block k (lt_of_heap e')).trans e'
    exact tag_ne e this (by decide) rfl
  refine ⟨⟨by rw [hgrow.os]; exact hb.os, by rw [hgrow.tape]; exact hb.tape, by rw [hgrow.output]; exact hb.output, Nat.le_trans hb.size (Nat.le_trans hsz hgrow.size)⟩, a2, ⟨_, by simpa using hown, fun i hi => ?_⟩, ?_, ⟨_, _, rfl⟩⟩
  · by_cases c : i < m.got.length
    · obtain ⟨q1, v, q2, q3⟩ := hx i c
      have eg : (m.got ++ [(part, data)]).getD i (0, []) = m.got.getD i (0, []) := by simp [c, List.getElem?_append_left c]
      rw [eg]
      refine ⟨by rw [List.getElem?_append_left (by omega)]; exact q1, v, by rw [List.getElem?_append_left (by omega)]; exact q2, q3.keep (fun k cs e => ?_)⟩
      have e8 := (hb.block k (lt_of_heap e)).trans e
      rw [h5 k cs e8, e8, e]
    · obtain rfl : i = m.got.length := by simp at hi; omega
      have eg : (m.got ++ [(part, data)]).getD m.got.length (0, []) = (part, data) := by simp
      rw [eg]
      refine ⟨by rw [List.getElem?_append_right (by omega), hxl]; simp, v8, by rw [List.getElem?_append_right (by omega), hxl]; simp, bo.keep h5⟩
  · rcases hat with h | h
    · exact Or.inl h.symm
    · exact Or.inr ⟨g, rfl, by omega⟩

/-- The i-th message with one part more. -/
theorem rep_put {W wa w9 : World} {K0 R : Nat} {mx lt lim : Int} {ms : List Msg} (h : RepR W K0 R mx lt lim ms) (hkd : KD ms) (hgd : GD ms) (i : Nat) (hi : i < ms.length) (part : Int) (data : List Int) (v' : Value)
    (a1 : wa.os = W.os ∧ wa.tape = W.tape ∧ wa.output = W.output ∧ W.heap.size ≤ wa.heap.size) (a2 : ∀ k, k < W.heap.size → some k ≠ (ms[i]).gv.ownBlock → wa.heap[k]? = W.heap[k]?)
    (b : Gv wa K0 v' ((ms[i]).got ++ [(part, data)])) (c : v'.ownBlock = (ms[i]).gv.ownBlock ∨ ∃ k, v'.ownBlock = some k ∧ W.heap.size ≤ k)
    (d1 : w9.os = wa.os ∧ w9.tape = wa.tape ∧ w9.output = wa.output ∧ wa.heap.size ≤ w9.heap.size) (d2 : ∀ k, k ≠ (ms[i]).pA → k ≠ R → w9.heap[k]? = wa.heap[k]?)
    (e : w9.heap[(ms[i]).pA]? = some (.cells ({ ms[i] with got := (ms[i]).got ++ [(part, data)], gv := v' } : Msg).pc 97 (0, 0)))
    (f : ∀ mp rn rp n, Root W R mx lt lim mp rn rp n (sumC ms) → Root w9 R mx lt lim mp rn rp n (sumC ms + 64 + data.length)) :
    RepR w9 K0 R mx lt lim (ms.set i { ms[i] with got := (ms[i]).got ++ [(part, data)], gv := v' }) ∧ GD (ms.set i { ms[i] with got := (ms[i]).got ++ [(part, data)], gv := v' }) ∧ FrR K0 W w9 := by
  have hap := fun j hj hij => h.apart hkd i j hi hj hij
  have hap' := fun j hj hij => h.apart hkd j i hj hi hij
  obtain ⟨hK, ⟨rfl, h1⟩ | ⟨r, clock, ho, hr, hm, hKr, hKe, hp⟩⟩ := h
  · simp at hi
  obtain ⟨m', hm'⟩ : ∃ m' : Msg, m' = { ms[i] with got := (ms[i]).got ++ [(part, data)], gv := v' } := ⟨_, rfl⟩
  rw [← hm'] at e ⊢
  have hpi := hp _ (List.getElem_mem hi)
  -- the row of the parts of any message
  have hgb : ∀ m ∈ ms, ∀ k, m.gv.ownBlock = some k → K0 ≤ k ∧ ∃ cs, W.heap[k]? = some (.cells cs 105 (0, 0)) := fun m hmm k hk => by
    obtain ⟨xs, ⟨-, ⟨e1, -⟩ | ⟨g, cap, cur, e1, e2, e3, -⟩⟩, -⟩ := (hp m hmm).2.2
    · rw [e1] at hk; cases hk
    · rw [e1] at hk
      obtain rfl : g = k := by simpa [Value.ownBlock] using hk
      exact ⟨e2, cur, e3⟩
  have hgr : ∀ k cs t, W.heap[k]? = some (.cells cs t (0, 0)) → t ≠ 105 → some k ≠ (ms[i]).gv.ownBlock := fun k cs t e1 e2 e3 => by
    obtain ⟨-, cs', e4⟩ := hgb _ (List.getElem_mem hi) k e3.symm
    exact tag_ne e1 e4 e2 rfl
  have hkeep : ∀ k cs t, W.heap[k]? = some (.cells cs t (0, 0)) → t ≠ 105 → t ≠ 97 ∨ k ≠ (ms[i]).pA → t ≠ 70 → w9.heap[k]? = W.heap[k]? := fun k cs t e1 e2 e3 e4 => by
    rw [d2 k (by rcases e3 with e3 | e3; exact tag_ne e1 hpi.1 e3; exact e3) (tag_ne e1 ho e4)]
    exact a2 k (lt_of_heap e1) (hgr k cs t e1 e2)
  have hbel : Below K0 W w9 := ⟨by rw [d1.1, a1.1], by rw [d1.2.1, a1.2.1], by rw [d1.2.2.1, a1.2.2.1], Nat.le_trans a1.2.2.2 d1.2.2.2, fun k hk => by
    have := hpi.2.1
    rw [d2 k (by omega) (by omega)]
    refine a2 k (by have := lt_of_heap ho; omega) (fun e1 => ?_)
    have := (hgb _ (List.getElem_mem hi) k e1.symm).1
    omega⟩
  have eE : (ms.set i m').map Msg.eA = ms.map Msg.eA := by
    rw [List.map_set, show m'.eA = (ms.map Msg.eA)[i]'(by simpa using hi) by rw [hm']; simp, List.set_getElem_self]
  have eP : (ms.set i m').map Msg.pA = ms.map Msg.pA := by
    rw [List.map_set, show m'.pA = (ms.map Msg.pA)[i]'(by simpa using hi) by rw [hm']; simp, List.set_getElem_self]
  have eN : (ms.set i m').map Msg.ent = ms.map Msg.ent := by
    rw [List.map_set, show m'.ent = (ms.map Msg.ent)[i]'(by simpa using hi) by rw [hm']; simp [Msg.ent], List.set_getElem_self]
  have eS : sumC (ms.set i m') = sumC ms + 64 + data.length := by
    rw [← sumA_map, List.map_set, sumA_set (ms.map Msg.abs) i (ms[i]).abs _ (by simp [hi]), sumA_map]
    have := costS_app (ms[i]).got (part, data)
    rw [hm']
    simp only [Msg.abs]
    simp only at this
    omega
  have hr9 : w9.heap[r]? = W.heap[r]? := by
    rw [d2 r (fun c => by have q := hpi.1; rw [← c, hm] at q; cases q) (fun c => by unfold Root at ho; rw [← c, hm] at ho; cases ho)]
    refine a2 r (lt_of_heap hm) (fun e1 => ?_)
    obtain ⟨-, cs', e4⟩ := hgb _ (List.getElem_mem hi) r e1.symm
    rw [hm] at e4; cases e4
  refine ⟨⟨hK, Or.inr ⟨r, clock, ?_, ?_, ?_, hKr, ?_, ?_⟩⟩, ?_, ⟨hbel, fun k cs t e1 e2 e3 e4 e5 => hkeep k cs t e1 e5 (Or.inl e4) e2⟩⟩
  · rw [eE, eS, List.length_set]; exact f _ _ _ _ ho
  · rw [eE, eP]
    exact ⟨hr.1, hr.2.1, fun j h => (hkeep _ _ _ (hr.getE j h) (by decide) (Or.inl (by decide)) (by decide)).trans (hr.getE j h)⟩
  · rw [eN, hr9]; exact hm
  · intro m hmm
    rcases List.mem_or_eq_of_mem_set hmm with hmm | hmm
    · exact hKe m hmm
    · rw [hmm, hm']; exact hKe (ms[i]) (List.getElem_mem hi)
  · intro m hmm
    obtain ⟨j, hj, hjm⟩ := List.getElem_of_mem hmm
    have hj' : j < ms.length := by simpa using hj
    by_cases hji : i = j
    · subst hji
      rw [List.getElem_set_self] at hjm
      subst hjm
      refine ⟨by rw [show m'.pA = (ms[i]).pA by rw [hm']]; exact e, by rw [hm']; exact hpi.2.1, ?_⟩
      have hgv : Gv wa K0 m'.gv m'.got := by rw [hm']; exact b
      obtain ⟨xs, q1, q2⟩ := hgv
      have hk5 : ∀ (k : Nat) (cs : Array Value) (t : TypeId), wa.heap[k]? = some (.cells cs t (0, 0)) → t = 5 ∨ t = 105 → w9.heap[k]? = wa.heap[k]? := fun k cs t e1 e2 => by
        refine d2 k (fun c => ?_) (fun c => ?_)
        · have : wa.heap[(ms[i]).pA]? = _ := (a2 _ (lt_of_heap hpi.1) (hgr _ _ _ hpi.1 (by decide))).trans hpi.1
          exact tag_ne e1 this (by rcases e2 with rfl | rfl <;> decide) c
        · have : wa.heap[R]? = _ := (a2 _ (lt_of_heap ho) (hgr _ _ _ ho (by decide))).trans ho
          exact tag_ne e1 this (by rcases e2 with rfl | rfl <;> decide) c
      refine ⟨xs, ownsRow_kp q1 (fun k cs e1 => hk5 k cs 105 e1 (Or.inr rfl)), fun j hj => ?_⟩
      obtain ⟨q3, v, q4, q5⟩ := q2 j hj
      exact ⟨q3, v, q4, q5.keep (fun k cs e1 => hk5 k cs 5 e1 (Or.inl rfl))⟩
    · rw [List.getElem_set_ne hji] at hjm
      subst hjm
      have hpj := hp _ (List.getElem_mem hj')
      have hpp : (ms[j]).pA ≠ (ms[i]).pA := by
        rcases Nat.lt_or_gt_of_ne hji with c | c
        · exact (hap j hj' c).symm
        · exact hap' j hj' c
      have hgj : ∀ k, (ms[j]).gv.ownBlock = some k → some k ≠ (ms[i]).gv.ownBlock := fun k hk e1 => by
        have hpw := List.pairwise_iff_getElem.1 hgd
        rcases Nat.lt_or_gt_of_ne hji with c | c
        · exact hpw i j hi hj' c k e1.symm hk
        · exact hpw j i hj' hi c k hk e1.symm
      refine ⟨(hkeep _ _ _ hpj.1 (by decide) (Or.inr hpp) (by decide)).trans hpj.1, hpj.2.1, ?_⟩
      obtain ⟨xs, q1, q2⟩ := hpj.2.2
      refine ⟨xs, ?_, fun t ht => ?_⟩
      · obtain ⟨l1, q1 | ⟨g, cap, cur, e1, e2, e3, e4⟩⟩ := q1
        · exact ⟨l1, Or.inl q1⟩
        · refine ⟨l1, Or.inr ⟨g, cap, cur, e1, e2, ?_, e4⟩⟩
          rw [d2 g (tag_ne e3 hpi.1 (by decide)) (tag_ne e3 ho (by decide)), a2 g (lt_of_heap e3) (hgj g (by rw [e1]; rfl))]
          exact e3
      · obtain ⟨q3, v, q4, q5⟩ := q2 t ht
        exact ⟨q3, v, q4, q5.keep (fun k cs e1 => hkeep k cs 5 e1 (by decide) (Or.inl (by decide)) (by decide))⟩
  · unfold GD at *
    rw [List.pairwise_iff_getElem] at *
    have hold : ∀ j (hj : j < ms.length) k, (ms[j]).gv.ownBlock = some k → k < W.heap.size := fun j hj k hk => by
      obtain ⟨-, cs, e1⟩ := hgb _ (List.getElem_mem hj) k hk
      exact lt_of_heap e1
    have hnew : m'.gv = v' := by rw [hm']
    intro j k hj hk hjk x hx hy
    have hj' : j < ms.length := by simpa using hj
    have hk' : k < ms.length := by simpa using hk
    by_cases c1 : i = j
    · subst c1
      rw [List.getElem_set_self, hnew] at hx
      rw [List.getElem_set_ne (by omega)] at hy
      rcases c with c | ⟨t, c, ct⟩
      · exact hgd i k hi hk' hjk x (c ▸ hx) hy
      · rw [c] at hx
        obtain rfl : t = x := by simpa using hx
        have := hold k hk' t hy
        omega
    · rw [List.getElem_set_ne c1] at hx
      by_cases c2 : i = k
      · subst c2
        rw [List.getElem_set_self, hnew] at hy
        rcases c with c | ⟨t, c, ct⟩
        · exact hgd j i hj' hi hjk x hx (c ▸ hy)
        · rw [c] at hy
          obtain rfl : t = x := by simpa using hy
          have := hold j hj' t hx
          omega
      · rw [List.getElem_set_ne c2] at hy
        exact hgd j k hj' hk' hjk x hx hy
end Go.Proofs.Qxb6612998aFmt
