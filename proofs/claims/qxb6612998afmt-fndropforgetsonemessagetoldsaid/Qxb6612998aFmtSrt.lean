import Derived.Test.Qxb6612998aFmtAbs
import Derived.Test.Qxb6612998aFmtShelf
import Derived.Maps.AppendAt
namespace Go.Proofs.Qxb6612998aFmt
open Go.RowKit

theorem append0 (w : World) (ty : TypeId) (ob oa : Option Addr) (n cap c : Nat) (h : n ≤ cap) : (Builtin.append_ #[33, 33] ty #[.slice ob n cap, .slice oa 0 c]).run Tryf.prog w = .ok (.slice ob n cap) w := by
  obtain ⟨i5, hi, -⟩ := info_parts info5
  cases ob <;> cases oa <;> simp [Builtin.append_, run_underlying Tryf.underlying33, sizeOf, typeInfo, hi, Builtin.lenOf, Builtin.firstCells, h, storeCells, loadCells, loadCellsFrom]
theorem appB (w : World) (base : Nat) (v : Value) (n : Nat) (xs : List Value) (hown : w.ownsRow base 5 1 v n xs) (src : Value) (l : List Int) (hb : BS w src l) (hn : n + l.length ≤ 1099511627776) (hbase : base ≤ w.heap.size) (ty : TypeId) :
    ∃ v' w', (Builtin.append_ #[33, 33] ty #[v, src]).run Tryf.prog w = .ok v' w' ∧ w'.ownsRow base 5 1 v' (n + l.length) (xs ++ cellsL l) ∧ w.grownBy w' v.ownBlock ∧ (v'.ownBlock = v.ownBlock ∨ v'.ownBlock = some w.heap.size) := by
  obtain ⟨oa, c, rfl, hc, g⟩ := hb
  by_cases hl : l = []
  · subst hl
    have hv : ∃ ob cap, v = .slice ob n cap ∧ n ≤ cap := by
      obtain ⟨-, ⟨rfl, rfl⟩ | ⟨b, cap, cur, rfl, -, -, h, -⟩⟩ := hown
      · exact ⟨none, 0, rfl, Nat.le_refl _⟩
      · exact ⟨_, cap, rfl, h⟩
    obtain ⟨ob, cap, rfl, hcap⟩ := hv
    refine ⟨_, w, append0 w ty ob oa n cap c hcap, by simpa [cellsL] using hown, ⟨rfl, rfl, rfl, Nat.le_refl _, fun _ _ _ => rfl⟩, Or.inl rfl⟩
  · obtain ⟨b, off, rfl, hb, hcl⟩ := g hl
    obtain ⟨i5, hi, hz0, hz1, hz2⟩ := info_parts info5
    obtain ⟨v', w', h1, h2, h3, -, h5⟩ := run_append_own_at (P := Tryf.prog) w base 33 ty 5 i5 _ 1 1 Tryf.underlying33 hi hz0 hz1 hz2 rfl (by omega) v n xs hown ⟨b, off, none⟩ l.length c (cellsL l) (by simp [cellsL]) (BS.src hcl) (fun v hv => by obtain ⟨x, _, rfl⟩ := List.mem_map.1 hv; rfl) (by unfold maxLen; omega) (by omega) hbase
    exact ⟨v', w', h1, h2, h3, h5⟩

theorem wpList_appB (w : World) {ops : Array Oper} {rest : List Oper} {o : Oper} {a : Act} {Q : Exit → Act → World → Prop} (hgd : o.guard = none) (s x : Operand)
    (ho : o.op = .call { callee := .builtin .append, args := #[s, x], argTypes := #[33, 33] })
    (base : Nat) (v : Value) (n : Nat) (xs : List Value) (hs : a.eval s = v) (hown : w.ownsRow base 5 1 v n xs) (src : Value) (l : List Int) (hx : a.eval x = src) (hb : BS w src l) (hn : n + l.length ≤ 1099511627776) (hbase : base ≤ w.heap.size)
    (h : ∀ v' w', w'.ownsRow base 5 1 v' (n + l.length) (xs ++ cellsL l) → w.grownBy w' v.ownBlock → (v'.ownBlock = v.ownBlock ∨ v'.ownBlock = some w.heap.size) → wpList Tryf.prog ops Q rest (a.put o.dst v') w') : wpList Tryf.prog ops Q (o :: rest) a w := by
  refine wpList_plain hgd fun K hK => ?_
  obtain ⟨v', w', hr, h2, h3, h4⟩ := appB w base v n xs hown src l hb hn hbase o.type
  unfold Oper.wp execOp
  simp only [ho, resolve, invoke, builtin, Sem.run_bind, Sem.run_pure, Result.andThen_ok, List.map_toArray, List.map_cons, List.map_nil, hs, hx, hr]
  exact hK _ _ (h v' w' h2 h3 h4)

theorem isNaN_any (x : Int) (w : World) : Calls Tryf.prog 62 #[.int .i64 x] w fun e w' => e = .returned (.bool false) ∧ w' = w := by
  go_enter Tryf.func62, Tryf.ntmps62
  go_wp2
  go_ret
  exact ⟨by simp, rfl⟩
def cmpI (a b : Int) : Int := if a < b then -1 else if b < a then 1 else 0
theorem compare_any (a b : Int) (w : World) : Calls Tryf.prog 52 #[.int .i64 a, .int .i64 b] w fun e w' => e = .returned (.int .i64 (cmpI a b)) ∧ w' = w := by
  have K := hide isNaN_any
  by_cases h1 : a < b
  · have e : cmpI a b = -1 := by unfold cmpI; rw [if_pos h1]
    rw [e]
    go_enter Tryf.func52, Tryf.ntmps52
    go_wp2_with (go_at_call 62; refine Calls.mono (unhide K _ _) ?_; rintro e w8 ⟨rfl, rfl⟩)
    go_ret
    exact ⟨rfl, rfl⟩
  · by_cases h2 : b < a
    · have e : cmpI a b = 1 := by unfold cmpI; rw [if_neg h1, if_pos h2]
      rw [e]
      go_enter Tryf.func52, Tryf.ntmps52
      go_wp2_with (go_at_call 62; refine Calls.mono (unhide K _ _) ?_; rintro e w8 ⟨rfl, rfl⟩)
      go_ret
      exact ⟨rfl, rfl⟩
    · have e : cmpI a b = 0 := by unfold cmpI; rw [if_neg h1, if_neg h2]
      rw [e]
      go_enter Tryf.func52, Tryf.ntmps52
      go_wp2_with (go_at_call 62; refine Calls.mono (unhide K _ _) ?_; rintro e w8 ⟨rfl, rfl⟩)
      go_ret
      exact ⟨rfl, rfl⟩
abbrev Pc := Int × (Option Addr × Nat × Nat)
def enc2 (x : Pc) : List Value := [.int .i64 x.1, .slice x.2.1 x.2.2.1 x.2.2.2]
def cmpP (x y : Pc) : Int := cmpI x.1 y.1
theorem cmpP_any (x y : Pc) (w : World) :
    Calls Tryf.prog 51 #[.agg (enc2 x).toArray, .agg (enc2 y).toArray] w fun e w' => e = .returned (.int .i64 (cmpP x y)) ∧ ∃ q os, w' = Sort.grow (w.drewN q) os := by
  obtain ⟨x1, x2, x3, x4⟩ := x
  obtain ⟨y1, y2, y3, y4⟩ := y
  show Calls Tryf.prog 51 #[.agg #[.int .i64 x1, .slice x2 x3 x4], .agg #[.int .i64 y1, .slice y2 y3 y4]] w fun e w' => e = .returned (.int .i64 (cmpI x1 y1)) ∧ Gr w w'
  have K := hide compare_any
  go_enter Tryf.func51, Tryf.ntmps51
  go_wp2_with (go_at_call 52; refine Calls.mono (unhide K _ _ _) ?_; rintro e w8 ⟨rfl, rfl⟩)
  go_ret
  exact ⟨rfl, ((Gr.refl w).alloc _).alloc _⟩

theorem ltOf_t (x y : Pc) : ltOf cmpP x y = true ↔ x.1 < y.1 := by
  unfold ltOf cmpP cmpI
  rw [decide_eq_true_iff]
  constructor
  · intro h
    split at h
    · assumption
    · split at h <;> omega
  · intro h; rw [if_pos h]; decide
theorem ltOf_f (x y : Pc) : ltOf cmpP x y = false ↔ ¬ x.1 < y.1 := by
  rw [← ltOf_t]; simp
theorem swoP : Sort.SWO (ltOf cmpP) where
  irrefl x := by rw [ltOf_f]; omega
  trans x y z h1 h2 := by
    rw [ltOf_t] at *
    omega
  ntrans x y z h1 h2 := by
    rw [ltOf_f] at *
    omega
theorem enters51 : ∀ args w, (callFunc 51 args).run Tryf.prog w = .ok (.enter 51 args) w := enters_of Tryf.func51 (by kernel_rfl) rfl

/-- What the sort leaves. -/
structure Sorted2 (w : World) (g : Nat) (d d' : Array Pc) (w' : World) : Prop where
  size : d'.size = d.size
  perm : d'.toList.Perm d.toList
  sort : ∀ i j, i < j → j < d'.size → ¬ (d'[j]!).1 < (d'[i]!).1
  row : Sort.HoldsK enc2 2 w' g 0 d'
  os : w'.os = w.os
  tape : w'.tape = w.tape
  output : w'.output = w.output
  le : w.heap.size ≤ w'.heap.size
  block : ∀ k, k < w.heap.size → k ≠ g → w'.heap[k]? = w.heap[k]?
theorem sortP_any (w : World) (g cap : Nat) (d : Array Pc) (hg : g < w.heap.size) (hN : d.size ≤ 131072) (hH : Sort.HoldsK enc2 2 w g 0 d) :
    Calls Tryf.prog 50 #[.slice (some ⟨g, 0, none⟩) d.size cap, .func (.func 51) #[] #[]] w fun e w' => e = .returned (.tuple #[]) ∧ ∃ d', Sorted2 w g d d' w' := by
  have h := AnyQ.slices_SortFunc Tryf.sortE 2 Tryf.isAgg105 Tryf.sizeOf105 enc2 (fun _ => rfl) (fun x v hv => by simp [enc2] at hv; rcases hv with rfl | rfl <;> rfl) cmpP swoP 51 #[] g 0 cap d w enters51 (fun m os dk hs x y => cmpP_any x y _) hH hg (by omega)
  change Calls Tryf.prog 50 _ _ _ at h
  refine h.mono ?_
  rintro e w' ⟨rfl, d', n, os, hp, hs, rfl⟩
  obtain ⟨h1, -, h3⟩ := hp
  have e1 : (d'.extract 0 d.size).toList = d'.toList := by rw [← h1]; simp
  have e2 : (d.extract 0 d.size).toList = d.toList := by simp
  have hsz : ((Sort.putRowK enc2 2 (Sort.ahead w n) g 0 d').heap).size = w.heap.size := by simp [Sort.putRowK, Sort.putRow, Sort.mapBlock, Sort.ahead]
  refine ⟨rfl, d', h1, ?_, fun i j hij hj => ?_, Sort.holdsK_grow _ _ _ _ _ _ _ (by show g < (w.heap.modify g _).size; simpa using hg) (Sort.holdsK_putRowK _ _ _ _ _ d d' (Sort.holdsK_ahead _ _ _ _ _ _ _ hH) h1), rfl, rfl, rfl, ?_, fun k hk hne => ?_⟩
  · rw [e1, e2] at h3; exact h3
  · have hh := hs i j (by omega) hij (by omega)
    exact (ltOf_f _ _).1 hh
  · show w.heap.size ≤ (_ ++ os).size
    simp [Sort.putRowK, Sort.putRow, Sort.mapBlock, Sort.ahead]
  · show ((Sort.putRowK enc2 2 (Sort.ahead w n) g 0 d').heap ++ os)[k]? = w.heap[k]?
    rw [Array.getElem?_append_left (by omega)]
    show (w.heap.modify g _)[k]? = _
    rw [Array.getElem?_modify, if_neg (by omega)]
end Go.Proofs.Qxb6612998aFmt
