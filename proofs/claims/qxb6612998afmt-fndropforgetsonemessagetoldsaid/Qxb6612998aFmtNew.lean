import Derived.Test.Qxb6612998aFmtMjn
namespace Go.Proofs.Qxb6612998aFmt
open Go.RowKit Go.Sort

/-- A message of the model, new. -/
def z58 (p q : Int) (d : Bool) (n t : Int) : Array Value := #[.int .u16 p, .int .u16 q, .bool d, .int .i64 n] ++ Array.replicate 256 (.bool false) ++ Array.replicate 256 (.slice none 0 0) ++ #[.int .i64 0, .int .i64 0, .int .i64 256, .int .i64 t]
set_option maxRecDepth 20000 in
theorem built58 (p q : Int) (d : Bool) (n t : Int) : Tryf.prog.built 58 [(0, .int .u16 p), (1, .int .u16 q), (2, .bool d), (3, .int .i64 n), (8, .int .i64 256), (9, .int .i64 t)] = some (z58 p q d n t) := by kernel_rfl
theorem run58 (p q : Int) (d : Bool) (n t : Int) (W : World) : (Instr.build 58 #[(0, .int .u16 p), (1, .int .u16 q), (2, .bool d), (3, .int .i64 n), (8, .int .i64 256), (9, .int .i64 t)]).run Tryf.prog W = .ok (.agg (z58 p q d n t)) W := run_build W 58 _ _ (built58 p q d n t)
theorem z58_size (p q : Int) (d : Bool) (n t : Int) : (z58 p q d n t).size = 520 := by simp [z58]
theorem z58_have (p q : Int) (d : Bool) (n t : Int) (k : Nat) (hk : k < 256) : (z58 p q d n t)[4 + k]? = some (.bool false) := by
  unfold z58
  rw [Array.getElem?_append_left (by simp; omega), Array.getElem?_append_left (by simp; omega), Array.getElem?_append_right (by simp)]
  simp [hk]
theorem z58_data (p q : Int) (d : Bool) (n t : Int) (k : Nat) (hk : k < 256) : (z58 p q d n t)[260 + k]? = some (.slice none 0 0) := by
  unfold z58
  rw [Array.getElem?_append_left (by simp; omega), Array.getElem?_append_right (by simp)]
  simp [hk]
theorem z58_MC (w : World) (s : Stp) : MC w (newA s) (z58 s.port s.seq (defl s.flags) s.parts s.now) := by
  refine ⟨z58_size _ _ _ _ _, ?_, ?_, ?_, ?_, fun p hp => ?_, fun p hp => ?_, ?_, ?_, ?_, ?_⟩
  · simp [z58, newA]
  · simp [z58, newA]
  · simp [z58, newA]
  · simp [z58, newA]
  · rw [z58_have _ _ _ _ _ p hp]; simp [newA, come]
  · exact ⟨_, z58_data _ _ _ _ _ p hp, Or.inl ⟨none, 0, rfl, by simp [newA, getA]⟩⟩
  · simp [z58, newA]
  · simp [z58, newA, lenS]
  · simp [z58, newA, costS]
  · simp [z58, newA]

theorem ownM {w : World} {K0 : Nat} {v : Value} {n : Nat} {l : List Value} (h : w.ownsRow K0 59 1 v n l) : ∀ k, v.ownBlock = some k → K0 ≤ k ∧ ∃ cs, w.heap[k]? = some (.cells cs 59 (0, 0)) := fun k hk => by
  obtain ⟨-, ⟨e1, -⟩ | ⟨g, cap, cur, e1, e2, e3, -⟩⟩ := h
  · rw [e1] at hk; cases hk
  · rw [e1] at hk
    obtain rfl : g = k := by simpa [Value.ownBlock] using hk
    exact ⟨e2, cur, e3⟩
/-- The model with one message more. -/
theorem app_rep {W wa wf : World} {K0 M A : Nat} {mx lt lim : Int} {mv mv' : Value} {xs : List MM} {Z : Array Value} {an : Abs} (h : RepM W K0 M mx lt lim mv xs) (hK : K0 ≤ W.heap.size) (hA : W.heap.size ≤ A)
    (a1 : wa.os = W.os ∧ wa.tape = W.tape ∧ wa.output = W.output ∧ W.heap.size ≤ wa.heap.size) (a2 : ∀ k, k < W.heap.size → some k ≠ mv.ownBlock → wa.heap[k]? = W.heap[k]?)
    (b : wa.ownsRow K0 59 1 mv' (xs.length + 1) (xs.map ptrM ++ [.pointer (some ⟨A, 0, none⟩)])) (c : wa.heap[A]? = some (.cells Z 58 (0, 0))) (hZ : MC wf an Z) (hcost : costS an.got = 256)
    (d1 : Ch [M] wa wf) (d2 : wf.heap[M]? = some (.cells (mrow mx lt lim mv' (sumA (xs.map Prod.snd) + 256)) 48 (0, 0))) : RepM wf K0 M mx lt lim mv' (xs ++ [(A, an)]) ∧ FrM K0 W wf := by
  have hown := ownM h.own
  have hM : wa.heap[M]? = W.heap[M]? := a2 M (lt_of_heap h.root) (fun e => by
    obtain ⟨-, cs, e1⟩ := hown M e.symm
    exact tag_ne h.root e1 (by decide) rfl)
  have hMa := hM.trans h.root
  have keepA : ∀ (k : Nat) (cs : Array Value) (t : TypeId), wa.heap[k]? = some (.cells cs t (0, 0)) → t ≠ 48 → wf.heap[k]? = wa.heap[k]? := fun k cs t e ht => d1.block k (lt_of_heap e) (by simpa using tag_ne e hMa ht)
  have keepW : ∀ (k : Nat) (cs : Array Value) (t : TypeId), W.heap[k]? = some (.cells cs t (0, 0)) → t ≠ 48 → t ≠ 59 → wf.heap[k]? = W.heap[k]? := fun k cs t e ht ht2 => by
    have e1 := a2 k (lt_of_heap e) (fun c => by
      obtain ⟨-, cs', e'⟩ := hown k c.symm
      exact tag_ne e e' ht2 rfl)
    rw [keepA k cs t (e1.trans e) ht, e1]
  refine ⟨⟨?_, h.base, ?_, fun x hx => ?_, ?_⟩, ⟨⟨d1.os.trans a1.1, d1.tape.trans a1.2.1, d1.output.trans a1.2.2.1, Nat.le_trans a1.2.2.2 d1.size, fun k hk => ?_⟩, fun k o e ho => ?_⟩⟩
  · rw [d2, List.map_append, sumA_app]
    have e : sumA (List.map Prod.snd [(A, an)]) = 256 := by simp [sumA, hcost]
    rw [e]
  · have e : (xs ++ [(A, an)]).map ptrM = xs.map ptrM ++ [.pointer (some ⟨A, 0, none⟩)] := by simp [ptrM]
    rw [e, List.length_append]
    exact ownsRow_kp b (fun k cs e => keepA k cs 59 e (by decide))
  · rcases List.mem_append.1 hx with hx | hx
    · exact ⟨(h.each x hx).1, (h.each x hx).2.keep (fun k cs t e ht => keepW k cs t e (by rcases ht with rfl | rfl <;> decide) (by rcases ht with rfl | rfl <;> decide))⟩
    · simp at hx
      subst hx
      exact ⟨Nat.le_trans hK hA, Z, (keepA _ _ _ c (by decide)).trans c, hZ⟩
  · rw [List.map_append, List.nodup_append]
    refine ⟨h.nodup, by simp, fun x hx y hy => ?_⟩
    simp at hy
    subst hy
    obtain ⟨z, hz, rfl⟩ := List.mem_map.1 hx
    obtain ⟨cs, e, -⟩ := (h.each z hz).2
    have := lt_of_heap e
    omega
  · have hkM := h.base
    rw [d1.block k (Nat.lt_of_lt_of_le hk (Nat.le_trans hK a1.2.2.2)) (by simp; omega)]
    refine a2 k (by omega) (fun e => ?_)
    have := (hown k e.symm).1
    omega
  · have e1 : wa.heap[k]? = W.heap[k]? := a2 k (lt_of_heap e) (fun c => by
      obtain ⟨-, cs', e'⟩ := hown k c.symm
      rw [e] at e'
      exact (ho cs' 59 (Option.some.inj e')).2.2 rfl)
    rw [d1.block k (by have := lt_of_heap e; omega) (fun hx => ?_), e1, e]
    obtain rfl : k = M := by simpa using hx
    have q := h.root
    rw [e] at q
    exact (ho _ 48 (Option.some.inj q)).1 rfl

theorem come_app (p : Int) (got : List (Int × List Int)) (x : Int × List Int) : come p (got ++ [x]) = (come p got || x.1 == p) := by simp [come]
theorem getA_app_ne {p : Int} {got : List (Int × List Int)} {x : Int × List Int} (h : x.1 ≠ p) : getA p (got ++ [x]) = getA p got := by
  unfold getA
  rw [List.find?_append]
  have e : [x].find? (fun y => y.1 == p) = none := by simp [h]
  rw [e, Option.or_none]
theorem getA_app_eq {got : List (Int × List Int)} {x : Int × List Int} (h : come x.1 got = false) : getA x.1 (got ++ [x]) = x.2 := by
  unfold getA
  rw [List.find?_append]
  have e : got.find? (fun y => y.1 == x.1) = none := List.find?_eq_none.2 (fun y hy => by simpa using come_false h y hy)
  rw [e]
  simp
theorem set_ne {cs : Array Value} {i j : Nat} {v : Value} (h : i ≠ j) : (cs.setIfInBounds i v)[j]? = cs[j]? := by
  rw [Array.getElem?_setIfInBounds]; simp [h]
theorem set_eq {cs : Array Value} {i : Nat} {v : Value} (h : i < cs.size) : (cs.setIfInBounds i v)[i]? = some v := by
  rw [Array.getElem?_setIfInBounds]; simp [h]
/-- One part more in a message of the model. -/
theorem mc_put {W w' : World} {a : Abs} {cs : Array Value} {s : Stp} {n : Nat} {v8 : Value} (h : MC W a cs) (hn : s.part = n) (hn1 : n < 256) (hc : come n a.got = false) (hb : BO w' v8 s.data) (hk : ∀ (k : Nat) (cs : Array Value), W.heap[k]? = some (.cells cs 5 (0, 0)) → w'.heap[k]? = W.heap[k]?) :
    MC w' (addA a s) (((((cs.setIfInBounds (4 + n) (.bool true)).setIfInBounds (260 + n) v8).setIfInBounds 516 (.int .i64 ((a.got.length : Int) + 1))).setIfInBounds 517 (.int .i64 (lenS a.got + s.data.length))).setIfInBounds 518 (.int .i64 (costS a.got + (64 + s.data.length)))) := by
  have hsz := h.size
  refine ⟨by simp [hsz], ?_, ?_, ?_, ?_, fun p hp => ?_, fun p hp => ?_, ?_, ?_, ?_, ?_⟩
  · rw [set_ne (by omega), set_ne (by omega), set_ne (by omega), set_ne (by omega), set_ne (by omega)]; exact h.port
  · rw [set_ne (by omega), set_ne (by omega), set_ne (by omega), set_ne (by omega), set_ne (by omega)]; exact h.seq
  · rw [set_ne (by omega), set_ne (by omega), set_ne (by omega), set_ne (by omega), set_ne (by omega)]; exact h.defl
  · rw [set_ne (by omega), set_ne (by omega), set_ne (by omega), set_ne (by omega), set_ne (by omega)]; exact h.parts
  · rw [set_ne (by omega), set_ne (by omega), set_ne (by omega), set_ne (by omega)]
    show _ = some (Value.bool (come p (a.got ++ [(s.part, s.data)])))
    rw [come_app, hn]
    by_cases e : n = p
    · subst e
      rw [set_eq (by omega)]; simp
    · rw [set_ne (by omega), h.come p hp]
      have : ¬ ((n : Int) = (p : Int)) := by omega
      simp [this]
  · rw [set_ne (by omega), set_ne (by omega), set_ne (by omega)]
    show ∃ v, _ ∧ BO w' v (getA p (a.got ++ [(s.part, s.data)]))
    rw [hn]
    by_cases e : n = p
    · subst e
      refine ⟨v8, set_eq (by simp [hsz]; omega), ?_⟩
      have q := getA_app_eq (got := a.got) (x := ((n : Int), s.data)) hc
      simp only at q
      rw [q]
      exact hb
    · rw [set_ne (by omega), set_ne (by omega), getA_app_ne (by simp; omega)]
      obtain ⟨v, q1, q2⟩ := h.data p hp
      exact ⟨v, q1, q2.keep hk⟩
  · rw [set_ne (by omega), set_ne (by omega), set_eq (by simp [hsz])]; simp [addA]
  · rw [set_ne (by omega), set_eq (by simp [hsz])]
    have := lenS_app a.got (s.part, s.data)
    show _ = some (Value.int .i64 (lenS (a.got ++ [(s.part, s.data)])))
    rw [this]
  · rw [set_eq (by simp [hsz])]
    have := costS_app a.got (s.part, s.data)
    show _ = some (Value.int .i64 (costS (a.got ++ [(s.part, s.data)])))
    rw [this, Int.add_assoc]
  · rw [set_ne (by omega), set_ne (by omega), set_ne (by omega), set_ne (by omega), set_ne (by omega)]; exact h.started

theorem put_repM {W wf : World} {K0 M : Nat} {mx lt lim : Int} {mv : Value} {xs : List MM} (h : RepM W K0 M mx lt lim mv xs) (hK : K0 ≤ W.heap.size) (i : Nat) (hi : i < xs.length) (x : MM) (hx : x = xs[i]) (an : Abs) (cs' : Array Value)
    (hcs : wf.heap[x.1]? = some (.cells cs' 58 (0, 0))) (hmc : MC wf an cs') (hch : Ch [x.1, M] W wf) (hroot : wf.heap[M]? = some (.cells (mrow mx lt lim mv (sumA ((xs.map Prod.snd).set i an))) 48 (0, 0))) :
    RepM wf K0 M mx lt lim mv (xs.set i (x.1, an)) ∧ FrM K0 W wf := by
  obtain ⟨cs, hcs0, -⟩ := (h.each _ (List.getElem_mem hi)).2
  rw [← hx] at hcs0
  have e1 : (xs.set i (x.1, an)).map ptrM = xs.map ptrM := by
    rw [List.map_set, show ptrM (x.1, an) = (xs.map ptrM)[i]'(by simpa using hi) by rw [hx]; simp [ptrM], List.set_getElem_self]
  have e2 : (xs.set i (x.1, an)).map Prod.fst = xs.map Prod.fst := by
    rw [List.map_set, show x.1 = (xs.map Prod.fst)[i]'(by simpa using hi) by rw [hx]; simp, List.set_getElem_self]
  refine ⟨⟨by rw [List.map_set]; exact hroot, h.base, ?_, fun y hy => ?_, by rw [e2]; exact h.nodup⟩, FrM.of_ch hch hK (fun k hk => ?_)⟩
  · rw [e1, List.length_set]
    refine ownsRow_kp h.own (fun k cs e => hch.block k (lt_of_heap e) ?_)
    have d1 := tag_ne e hcs0 (by decide)
    have d2 := tag_ne e h.root (by decide)
    simp [d1, d2]
  · obtain ⟨j, hj, rfl⟩ := List.getElem_of_mem hy
    have hj' : j < xs.length := by simpa using hj
    by_cases c : i = j
    · subst c
      rw [List.getElem_set_self]
      exact ⟨by rw [hx]; exact (h.each _ (List.getElem_mem hi)).1, cs', hcs, hmc⟩
    · rw [List.getElem_set_ne c]
      have hne : (xs[j]).1 ≠ x.1 := by
        rw [hx]
        intro e
        have hnd := List.pairwise_iff_getElem.1 h.nodup
        rcases Nat.lt_or_gt_of_ne c with c | c
        · exact hnd i j (by simpa using hi) (by simpa using hj') c (by simpa using e.symm)
        · exact hnd j i (by simpa using hj') (by simpa using hi) c (by simpa using e)
      obtain ⟨q1, csj, q2, q3⟩ := h.each _ (List.getElem_mem hj')
      refine ⟨q1, csj, ?_, q3.keep (fun k cs e => hch.block k (lt_of_heap e) ?_)⟩
      · rw [hch.block _ (lt_of_heap q2) (by simp [hne, tag_ne q2 h.root (by decide)])]
        exact q2
      · have d1 := tag_ne e hcs0 (by decide)
        have d2 := tag_ne e h.root (by decide)
        simp [d1, d2]
  · rcases List.mem_cons.1 hk with rfl | hk
    · exact ⟨by rw [hx]; exact (h.each _ (List.getElem_mem hi)).1, _, _, hcs0, Or.inr (Or.inl rfl)⟩
    · obtain rfl : k = M := by simpa using hk
      exact ⟨h.base, _, _, h.root, Or.inl rfl⟩
def box37 (s : Stp) (oa : Option Addr) (dc : Nat) : Array Value := #[.int .u16 s.port, .int .u8 s.flags, .int .u16 s.seq, .int .i64 s.part, .int .i64 s.parts, .slice oa s.data.length dc, .int .i64 s.now]
end Go.Proofs.Qxb6612998aFmt
