import Derived.Test.Qxb6612998aFmtKit
namespace Go.Proofs.Qxb6612998aFmt
open Go.RowKit

/-! A region that draws, in which a LOAD is taken first although a later operation of the region writes its cell: S is asked only behind those operations that may come up ahead of a load. -/
section
variable {P : Program} {ops : Array Oper} {Q : Exit → Act → World → Prop} {md : Region.Mode} {S : World → Prop}

/-- Whatever order is picked; S holds behind each operation that could have come ahead of one of I. -/
def wpG (P : Program) (md : Region.Mode) (ops : Array Oper) (Q : Exit → Act → World → Prop) (S : World → Prop) (I : List Nat) : Nat → Array Bool → Act → World → Prop
  | 0, listed, a, w => Region.ready md ops listed = [] ∧ Q .normal a w
  | fuel + 1, listed, a, w => (Region.ready md ops listed = [] → Q .normal a w) ∧
    ∀ j ∈ Region.ready md ops listed, wpOp P ops Q j (fun a' w' => ((∃ i ∈ I, j ∈ Region.ready md ops (listed.setIfInBounds i false)) → S w') ∧ wpG P md ops Q S I fuel (listed.setIfInBounds j true) a' w') a w
theorem wpG_any {I : List Nat} : ∀ (fuel : Nat) (listed : Array Bool) (a : Act) (w : World), wpG P md ops Q S I fuel listed a w → wpAny P md ops Q fuel listed a w
  | 0, _, _, _, h => h
  | fuel + 1, _, _, _, h => ⟨h.1, fun i hi => wpOp_mono (fun a' w' h' => wpG_any fuel _ a' w' h'.2) (h.2 i hi)⟩
theorem wpG_less {I J : List Nat} (hJ : ∀ i ∈ J, i ∈ I) : ∀ (fuel : Nat) (listed : Array Bool) (a : Act) (w : World), wpG P md ops Q S I fuel listed a w → wpG P md ops Q S J fuel listed a w
  | 0, _, _, _, h => h
  | fuel + 1, _, _, _, h => ⟨h.1, fun i hi => wpOp_mono (fun a' w' h' => ⟨fun ⟨k, hk, hr⟩ => h'.1 ⟨k, hJ k hk, hr⟩, wpG_less hJ fuel _ a' w' h'.2⟩) (h.2 i hi)⟩
theorem set_back {listed : Array Bool} {i : Nat} (h : listed.getD i true = false) : (listed.setIfInBounds i true).setIfInBounds i false = listed := by
  by_cases c : i < listed.size
  · apply Array.ext_getElem?
    intro k
    simp only [Array.getElem?_setIfInBounds]
    by_cases e : i = k
    · subst e
      simp [c] at h ⊢
      rw [h]
    · simp [e]
  · simp [c] at h

theorem wpG_first {I : List Nat} {i : Nat} {oi : Oper} {v : Value} (hi : ops[i]? = some oi) (hsel : ∀ (j : Nat) (o : Oper) cs b, ops[j]? = some o → o.op ≠ .select cs b)
    (hQ : ∀ c a w, Q (.panic c) (a.put oi.dst v) w → Q (.panic c) a w) : ∀ (fuel : Nat) (listed : Array Bool) (a : Act) (w : World),
      (∀ j oj, ops[j]? = some oj → j ≠ i → listed.getD j true = false → (∀ e ∈ oj.after, Region.binds md e = true → e.on ≠ i) → oi.apart ops oj = true) →
      i ∈ Region.ready md ops listed → YieldsIf P ops S oi v a → S w →
      wpG P md ops Q S (i :: I) fuel (listed.setIfInBounds i true) (a.put oi.dst v) w → wpG P md ops Q S I (fuel + 1) listed a w := by
  intro fuel
  induction fuel with
  | zero =>
    intro listed a w _ hr hy hS H
    refine ⟨fun h => (by rw [h] at hr; cases hr), fun j hj => ?_⟩
    by_cases hji : j = i
    · subst hji
      exact hy.wpOp hi hS ⟨fun _ => hS, wpG_less (fun k hk => List.mem_cons_of_mem _ hk) _ _ _ _ H⟩
    · have := ready_mono hj hji
      rw [H.1] at this
      cases this
  | succ fuel ih =>
    intro listed a w hfree hr hy hS H
    refine ⟨fun h => (by rw [h] at hr; cases hr), fun j hj => ?_⟩
    by_cases hji : j = i
    · subst hji
      exact hy.wpOp hi hS ⟨fun _ => hS, wpG_less (fun k hk => List.mem_cons_of_mem _ hk) _ _ _ _ H⟩
    · have h1 := H.2 j (ready_mono hj hji)
      have hri := (mem_ready.1 hr).1
      obtain ⟨hjun, oj, hoj, hall⟩ := mem_ready.1 hj
      have hnot : ∀ e ∈ oj.after, Region.binds md e = true → e.on ≠ i := fun e he hb heq => by
        have q := hall e he hb
        rw [heq] at q
        by_cases c : i < listed.size
        · simp [c] at hri q
          rw [hri] at q
          cases q
        · simp [Array.getElem?_eq_none (Nat.le_of_not_lt c)] at q
      have h2 := wpOp_putIf hoj (hfree j oj hoj hji hjun hnot) (fun cs b => hsel i oi cs b hi) (fun cs b => hsel j oj cs b hoj) hQ hy h1
      refine wpOp_mono (fun a' w' h3 => ?_) h2
      have hS' : S w' := h3.2.1 ⟨i, List.mem_cons_self, by rw [set_back hri]; exact hj⟩
      refine ⟨fun _ => hS', ih (listed.setIfInBounds j true) a' w' (fun k ok hk hki hun hno => hfree k ok hk hki ?_ hno) (ready_mono hr (Ne.symm hji)) h3.1 hS' ?_⟩
      · by_cases hjk : j = k
        · subst hjk; exact hjun
        · rw [getD_set_ne true hjk] at hun; exact hun
      · rw [Array.setIfInBounds_comm _ _ hji]
        exact h3.2.2

theorem wpG_take {I : List Nat} {i : Nat} {oi : Oper} {v : Value} {fuel : Nat} {listed : Array Bool} {a : Act} {w : World} (L : Array Bool) (hi : ops[i]? = some oi) (hL : listed.setIfInBounds i true = L)
    (hs : Region.noSelect ops = true) (hf : Region.free md ops listed i = true) (hr : (Region.ready md ops listed).contains i = true)
    (hQ : ∀ c a w, Q (.panic c) (a.put oi.dst v) w → Q (.panic c) a w) (hw : Region.wanted oi (yielded ops a.tmps) = true) (hS : S w) (hy : ∀ w, S w → (execOp a.eval oi).run P w = .ok (.value v) w)
    (h : wpG P md ops Q S (i :: I) fuel L (a.put oi.dst v) w) : wpG P md ops Q S I (fuel + 1) listed a w := by
  subst hL
  exact wpG_first hi (Region.noSelect_spec hs) hQ fuel listed a w (Region.free_spec hi hf) (by simpa using hr) (Or.inl ⟨hw, hy⟩) hS h
/-- The only operation that may come up, S kept. -/
theorem wpG_keep {I : List Nat} {j : Nat} {o : Oper} {fuel : Nat} {listed : Array Bool} {a : Act} {w : World} (L : Array Bool) (ho : ops[j]? = some o) (hL : listed.setIfInBounds j true = L) (hr : Region.ready md ops listed = [j])
    (h : ∀ K' : Act → World → Prop, (∀ a w, S w → wpG P md ops Q S I fuel L a w → K' a w) → if Region.wanted o (yielded ops a.tmps) = true then Oper.wp P o a w K' Q else K' (a.put o.dst undef) w) : wpG P md ops Q S I (fuel + 1) listed a w :=
  ⟨fun e => (by rw [hr] at e; cases e), fun i hi => by
    subst hL
    rw [hr] at hi
    obtain rfl : i = j := by simpa using hi
    exact wpOp_step ho (fun K' hK => h K' (fun a w hS hW => hK a w ⟨fun _ => hS, hW⟩))⟩
/-- The only operation that may come up, and it waits for all of I. -/
theorem wpG_free {I : List Nat} {j : Nat} {o : Oper} {fuel : Nat} {listed : Array Bool} {a : Act} {w : World} (L : Array Bool) (ho : ops[j]? = some o) (hL : listed.setIfInBounds j true = L) (hr : Region.ready md ops listed = [j]) (hno : (I.any fun i => (Region.ready md ops (listed.setIfInBounds i false)).contains j) = false)
    (h : ∀ K' : Act → World → Prop, (∀ a w, wpG P md ops Q S I fuel L a w → K' a w) → if Region.wanted o (yielded ops a.tmps) = true then Oper.wp P o a w K' Q else K' (a.put o.dst undef) w) : wpG P md ops Q S I (fuel + 1) listed a w :=
  ⟨fun e => (by rw [hr] at e; cases e), fun i hi => by
    rw [hr] at hi
    obtain rfl : i = j := by simpa using hi
    subst hL
    refine wpOp_step ho (fun K' hK => h K' (fun a w hW => hK a w ⟨fun ⟨k, hk, hc⟩ => ?_, hW⟩))
    rw [List.any_eq_false] at hno
    exact absurd (by simpa using hc) (hno k hk)⟩
theorem wpG_done {I : List Nat} {listed : Array Bool} {a : Act} {w : World} (hr : Region.ready md ops listed = []) (h : Q .normal a w) : ∀ fuel, wpG P md ops Q S I fuel listed a w
  | 0 => ⟨hr, h⟩
  | _ + 1 => ⟨fun _ => h, by rw [hr]; simp⟩
theorem wp_region_G {id : Nat} {a : Act} {w : World} (n : Nat) (L : Array Bool) (hn : ops.size = n) (hL : Array.replicate ops.size false = L) (hm : P.follows .mixedOrders = true) (h : wpG P .any ops Q S [] n L a w.drew) : (Code.region id ops true).wp P Q a w := by
  subst hn
  subst hL
  exact wp_region_any hm (wpG_any _ _ _ _ h)
theorem wp_frame {c : Code} {a : Act} {w : World} (h : ∀ a', a' = a → c.wp P Q a' w) : c.wp P Q a w := h a rfl
theorem ev_same (a : Act) (i : Nat) (v : Value) (h : i < a.tmps.size) : (a.put (some i) v).eval (.tmp i) = v := by
  simp [Act.put, Act.eval, h]
theorem ev_other (a : Act) (i j : Nat) (v : Value) (h : i ≠ j) : (a.put (some i) v).eval (.tmp j) = a.eval (.tmp j) := by
  simp [Act.put, Act.eval, h]
theorem ev_const (a : Act) (v : Value) : a.eval (.const v) = v := rfl
theorem sz_put (a : Act) (i : Nat) (v : Value) : (a.put (some i) v).tmps.size = a.tmps.size := by simp [Act.put]
theorem hy_move {ρ : Operand → Value} {o : Oper} {x : Operand} {v : Value} (ho : o.op = .move x) (hv : ρ x = v) : ∀ w, S w → (execOp ρ o).run P w = .ok (.value v) w := fun w _ => by
  simp [execOp, ho, hv]
theorem hy_nil {ρ : Operand → Value} {o : Oper} {x : Operand} {ad : Addr} (ho : o.op = .nilCheck x) (hv : ρ x = .pointer (some ad)) : ∀ w, S w → (execOp ρ o).run P w = .ok (.value (.pointer (some ad))) w := fun w _ => by
  simp [execOp, ho, hv]
theorem hy_field {ρ : Operand → Value} {o : Oper} {t : TypeId} {x : Operand} {k : Nat} {u v : Value} (ho : o.op = .fieldAddr t x k) (hv : ρ x = u) (hr : ∀ w, (Instr.fieldAt t u k).run P w = .ok v w) : ∀ w, S w → (execOp ρ o).run P w = .ok (.value v) w := fun w _ => by
  simp [execOp, ho, hv, hr]
theorem hy_load {ρ : Operand → Value} {o : Oper} {t : TypeId} {x : Operand} {u v : Value} (ho : o.op = .load t x) (hv : ρ x = u) (hr : ∀ w, S w → (Instr.loadAt t u).run P w = .ok v w) : ∀ w, S w → (execOp ρ o).run P w = .ok (.value v) w := fun w hS => by
  simp [execOp, ho, hv, hr w hS]
theorem hy_build {ρ : Operand → Value} {o : Oper} {t : TypeId} {ps : Array (Nat × Operand)} {us : Array (Nat × Value)} {v : Value} (ho : o.op = .build t ps) (hv : (ps.map fun (i, x) => (i, ρ x)) = us) (hr : ∀ w, (Instr.build t us).run P w = .ok v w) : ∀ w, S w → (execOp ρ o).run P w = .ok (.value v) w := fun w _ => by
  simp only [execOp, ho, hv, Sem.run_bind, hr, Result.andThen_ok, Sem.run_pure]
theorem wp_val {a : Act} {o : Oper} {w w' : World} {v : Value} {K' : Act → World → Prop} (h : (execOp a.eval o).run P w = .ok (.value v) w') (hk : K' (a.put o.dst v) w') : Oper.wp P o a w K' Q := by
  unfold Oper.wp; rw [h]; exact hk
theorem wp_skip {a : Act} {o : Oper} {w w' : World} {K' : Act → World → Prop} (h : (execOp a.eval o).run P w = .ok .skip w') (hk : K' (a.put o.dst undef) w') : Oper.wp P o a w K' Q := by
  unfold Oper.wp; rw [h]; exact hk
/-- The last three, one behind the other. -/
theorem wpG_last3 {I : List Nat} {j1 j2 j3 : Nat} {o1 o2 o3 : Oper} {L : Array Bool} {a : Act} {w w' : World} {v1 v2 : Value} (L1 L2 L3 : Array Bool) (ho1 : ops[j1]? = some o1) (ho2 : ops[j2]? = some o2) (ho3 : ops[j3]? = some o3)
    (hg1 : o1.guard = none) (hg2 : o2.guard = none) (hg3 : o3.guard = none) (hL1 : L.setIfInBounds j1 true = L1) (hL2 : L1.setIfInBounds j2 true = L2) (hL3 : L2.setIfInBounds j3 true = L3)
    (hr1 : Region.ready md ops L = [j1]) (hr2 : Region.ready md ops L1 = [j2]) (hr3 : Region.ready md ops L2 = [j3]) (hr4 : Region.ready md ops L3 = []) (hno : (I.any fun i => (Region.ready md ops (L2.setIfInBounds i false)).contains j3) = false) (hS : S w)
    (e1 : (execOp a.eval o1).run P w = .ok (.value v1) w) (e2 : (execOp (a.put o1.dst v1).eval o2).run P w = .ok (.value v2) w) (e3 : (execOp ((a.put o1.dst v1).put o2.dst v2).eval o3).run P w = .ok .skip w')
    (hq : Q .normal (((a.put o1.dst v1).put o2.dst v2).put o3.dst undef) w') : wpG P md ops Q S I 3 L a w := by
  have hw : ∀ (o : Oper) y, o.guard = none → Region.wanted o y = true := fun o y h => by simp [Region.wanted, h]
  refine wpG_keep L1 ho1 hL1 hr1 (fun K' hK => ?_)
  rw [if_pos (hw _ _ hg1)]
  refine wp_val e1 (hK _ _ hS ?_)
  refine wpG_keep L2 ho2 hL2 hr2 (fun K' hK => ?_)
  rw [if_pos (hw _ _ hg2)]
  refine wp_val e2 (hK _ _ hS ?_)
  refine wpG_free L3 ho3 hL3 hr3 hno (fun K' hK => ?_)
  rw [if_pos (hw _ _ hg3)]
  exact wp_skip e3 (hK _ _ (wpG_done hr4 hq _))
theorem ex_box {ρ : Operand → Value} {o : Oper} {t : TypeId} {x : Operand} {u v : Value} {w w' : World} (ho : o.op = .box t x) (hv : ρ x = u) (hr : (Instr.box t u).run P w = .ok v w') : (execOp ρ o).run P w = .ok (.value v) w' := by
  simp only [execOp, ho, hv, Sem.run_bind, hr, Result.andThen_ok, Sem.run_pure]
theorem ex_slice {ρ : Operand → Value} {o : Oper} {t : TypeId} {n : Nat} {ps : Array (Nat × Operand)} {us : Array (Nat × Value)} {v : Value} {w w' : World} (ho : o.op = .buildSlice t n ps) (hv : (ps.map fun (i, x) => (i, ρ x)) = us) (hr : (Instr.buildSlice t n us).run P w = .ok v w') : (execOp ρ o).run P w = .ok (.value v) w' := by
  simp only [execOp, ho, hv, Sem.run_bind, hr, Result.andThen_ok, Sem.run_pure]
theorem ex_store {ρ : Operand → Value} {o : Oper} {t : TypeId} {x y : Operand} {u v : Value} {w w' : World} (ho : o.op = .store t x y) (hx : ρ x = u) (hy : ρ y = v) (hr : (Instr.storeAt t u v).run P w = .ok () w') : (execOp ρ o).run P w = .ok .skip w' := by
  simp only [execOp, ho, hx, hy, Sem.run_bind, hr, Result.andThen_ok, Sem.run_pure]
end
theorem fa48_3 (M : Nat) (w : World) : (Instr.fieldAt 48 (.pointer (some ⟨M, 0, none⟩)) 3).run Tryf.prog w = .ok (.pointer (some ⟨M, 3, none⟩)) w := by go_simp
theorem fa37_0 (M : Nat) (w : World) : (Instr.fieldAt 37 (.pointer (some ⟨M, 0, none⟩)) 0).run Tryf.prog w = .ok (.pointer (some ⟨M, 0, none⟩)) w := by go_simp
theorem fa37_2 (M : Nat) (w : World) : (Instr.fieldAt 37 (.pointer (some ⟨M, 0, none⟩)) 2).run Tryf.prog w = .ok (.pointer (some ⟨M, 2, none⟩)) w := by go_simp
theorem fa37_4 (M : Nat) (w : World) : (Instr.fieldAt 37 (.pointer (some ⟨M, 0, none⟩)) 4).run Tryf.prog w = .ok (.pointer (some ⟨M, 4, none⟩)) w := by go_simp
theorem fa37_6 (M : Nat) (w : World) : (Instr.fieldAt 37 (.pointer (some ⟨M, 0, none⟩)) 6).run Tryf.prog w = .ok (.pointer (some ⟨M, 6, none⟩)) w := by go_simp
theorem ld46 (A i : Nat) (oa : Option Addr) (n c : Nat) (w : World) (h : w.cell? ⟨A, i, none⟩ = some (.slice oa n c)) : (Instr.loadAt 46 (.pointer (some ⟨A, i, none⟩))).run Tryf.prog w = .ok (.slice oa n c) w := by go_simp
theorem ld31 (A i : Nat) (n : Int) (w : World) (h : w.cell? ⟨A, i, none⟩ = some (.int .u16 n)) : (Instr.loadAt 31 (.pointer (some ⟨A, i, none⟩))).run Tryf.prog w = .ok (.int .u16 n) w := by go_simp
theorem ld3 (A i : Nat) (n : Int) (w : World) (h : w.cell? ⟨A, i, none⟩ = some (.int .i64 n)) : (Instr.loadAt 3 (.pointer (some ⟨A, i, none⟩))).run Tryf.prog w = .ok (.int .i64 n) w := by go_simp
theorem ld2 (A i : Nat) (n : Int) (w : World) (h : w.cell? ⟨A, i, none⟩ = some (.int .i64 n)) : (Instr.loadAt 2 (.pointer (some ⟨A, i, none⟩))).run Tryf.prog w = .ok (.int .i64 n) w := by go_simp
theorem bx58 (Z : Array Value) (w : World) : (Instr.box 58 (.agg Z)).run Tryf.prog w = .ok (.pointer (some ⟨w.heap.size, 0, none⟩)) (w.alloc (.cells Z 58)) := by go_simp
theorem bs46 (A : Nat) (w : World) : (Instr.buildSlice 46 1 #[(0, .pointer (some ⟨A, 0, none⟩))]).run Tryf.prog w = .ok (.slice (some ⟨w.heap.size, 0, none⟩) 1 1) (w.alloc (.cells #[.pointer (some ⟨A, 0, none⟩)] 59)) := by go_simp
theorem st46 (A i : Nat) (u : Value) (oa : Option Addr) (n c : Nat) (w : World) (h : w.cell? ⟨A, i, none⟩ = some u) (hf : w.frozen? ⟨A, i, none⟩ = false) : (Instr.storeAt 46 (.pointer (some ⟨A, i, none⟩)) (.slice oa n c)).run Tryf.prog w = .ok () (w.setCell ⟨A, i, none⟩ (.slice oa n c)) := by go_simp
end Go.Proofs.Qxb6612998aFmt
