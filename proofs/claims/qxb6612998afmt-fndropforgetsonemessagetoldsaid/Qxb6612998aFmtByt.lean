import Derived.Test.Qxb6612998aFmtKit
import Derived.Laws.CopyRow
import Derived.Laws.CopyOwn
import Derived.Lib.SliceRun
namespace Go.Proofs.Qxb6612998aFmt
open Go.RowKit Go.Sort

/-- A slice of bytes. -/
def BS (w : World) (v : Value) (l : List Int) : Prop := ∃ oa c, v = .slice oa l.length c ∧ l.length ≤ c ∧ (l ≠ [] → ∃ b off, oa = some ⟨b, off, none⟩ ∧ b < w.heap.size ∧ ∀ i, i < l.length → w.cell? ⟨b, off + i, none⟩ = some (.int .u8 (l.getD i 0)))
theorem BS.below {w w' : World} {v : Value} {l : List Int} (h : BS w v l) (hb : Below w.heap.size w w') : BS w' v l := by
  obtain ⟨oa, c, e, hc, h⟩ := h
  refine ⟨oa, c, e, hc, fun hn => ?_⟩
  obtain ⟨b, off, e, hlt, hcell⟩ := h hn
  exact ⟨b, off, e, Nat.lt_of_lt_of_le hlt hb.size, fun i hi => (hb.cell (p := ⟨b, off + i, none⟩) hlt).trans (hcell i hi)⟩

set_option maxHeartbeats 1000000 in
theorem equal_same (v1 v2 : Value) (l : List Int) (w : World) (h1 : BS w v1 l) (h2 : BS w v2 l) (hl : l.length ≤ 4611686018427387904) :
    Calls Tryf.prog 20 #[v1, v2] w fun e w' => e = .returned (.bool true) ∧ Gr w w' := by
  obtain ⟨oa, c1, rfl, hc1, g1⟩ := h1
  obtain ⟨ob, c2, rfl, hc2, g2⟩ := h2
  have G1 := hide g1
  have G2 := hide g2
  clear g1 g2 hc1 hc2
  go_enter Tryf.func20, Tryf.ntmps20
  go_wp2_with fail
  go_loopg [5] l.length (fun g kv w' => ∃ k q : Nat, g = l.length - k ∧ k ≤ l.length ∧ kv = .int .i64 k ∧ w' = w.drewN q)
  case atStart => exact ⟨0, 0, rfl, by omega, rfl, rfl⟩
  case round =>
    obtain ⟨k, q, hg, hk, rfl, hw⟩ := hrel
    have HG := hide hg
    clear hg
    by_cases hkl : k < l.length
    · have hne : l ≠ [] := by rintro rfl; simp at hkl
      obtain ⟨b, off, rfl, hb, hc⟩ := unhide G1 hne
      obtain ⟨b', off', rfl, hb', hc'⟩ := unhide G2 hne
      have x1 : ∀ n : Nat, (wr.drewN n).cell? ⟨b, off + k, none⟩ = some (.int .u8 (l.getD k 0)) := fun n => by rw [hw]; exact hc k hkl
      have x2 : ∀ n : Nat, (wr.drewN n).cell? ⟨b', off' + k, none⟩ = some (.int .u8 (l.getD k 0)) := fun n => by rw [hw]; exact hc' k hkl
      have HW := hide hw
      clear hw hc hc' hb hb' hne
      generalize l.getD k 0 = x at *
      go_wp2_with fail
      go_quiet (fail)
      go_wp2_with fail
      go_roundg (l.length - (k + 1))
      case measure => rw [unhide HG]; omega
      case rel => exact ⟨k + 1, q + nq, rfl, by omega, rfl, by rw [unhide HW, World.drewN_drewN]⟩
    · obtain rfl : k = l.length := by omega
      have HW := hide hw
      clear hw
      go_wp2_with fail
      go_ret
      exact ⟨rfl, by rw [unhide HW]; exact (Gr.refl _).drewN q⟩

theorem info5 : (Tryf.prog.info? 5).map (fun i => (i.zero, i.size, i.bytes)) = some (some (.int .u8 0), 1, 1) := by kernel_rfl
theorem size5 : (Tryf.prog.info? 5).map (·.size) = some 1 := by kernel_rfl
def cellsL (l : List Int) : List Value := l.map (Value.int .u8)
theorem cellsL_get (l : List Int) (j : Nat) (h : j < l.length) : (cellsL l)[j]? = some (.int .u8 (l.getD j 0)) := by simp [cellsL, h]
theorem BS.src {w : World} {l : List Int} {b off : Nat} (hc : ∀ i, i < l.length → w.cell? ⟨b, off + i, none⟩ = some (.int .u8 (l.getD i 0))) : ∀ j v, (cellsL l)[j]? = some v → w.cell? ((⟨b, off, none⟩ : Addr).add j) = some v := fun j v hv => by
  have hj : j < l.length := by have := (List.getElem?_eq_some_iff.1 hv).1; simpa [cellsL] using this
  rw [show (⟨b, off, none⟩ : Addr).add j = ⟨b, off + j, none⟩ by unfold Addr.add; split <;> simp_all, hc j hj, ← hv, cellsL_get l j hj]
/-- A slice whose row the call itself made. -/
theorem BS.of_row {w : World} {g cap : Nat} {cur : Array Value} {t : TypeId} {l : List Int} (hg : w.heap[g]? = some (.cells cur t (0, 0))) (hcap : l.length ≤ cap) (hcur : ∀ i, i < l.length → cur[i]? = some (.int .u8 (l.getD i 0))) : BS w (.slice (some ⟨g, 0, none⟩) l.length cap) l := by
  refine ⟨_, cap, rfl, hcap, fun _ => ⟨g, 0, rfl, ?_, fun i hi => ?_⟩⟩
  · rcases Nat.lt_or_ge g w.heap.size with h | h
    · exact h
    · rw [Array.getElem?_eq_none h] at hg; cases hg
  · rw [cell_of_row _ _ _ _ _ _ hg, Nat.zero_add]; exact hcur i hi

/-- A slice of bytes in a row of bytes of its own. -/
def BO (w : World) (v : Value) (l : List Int) : Prop := (∃ oa c, v = .slice oa 0 c ∧ l = []) ∨ ∃ g cap cur, v = .slice (some ⟨g, 0, none⟩) l.length cap ∧ l.length ≤ cap ∧ w.heap[g]? = some (.cells cur 5 (0, 0)) ∧ ∀ i, i < l.length → cur[i]? = some (.int .u8 (l.getD i 0))
theorem BO.bs {w : World} {v : Value} {l : List Int} (h : BO w v l) : BS w v l := by
  rcases h with ⟨oa, c, rfl, rfl⟩ | ⟨g, cap, cur, rfl, h1, h2, h3⟩
  · exact ⟨oa, c, rfl, Nat.zero_le _, fun h => absurd rfl h⟩
  · exact BS.of_row h2 h1 h3
theorem BO.keep {w w' : World} {v : Value} {l : List Int} (h : BO w v l) (hk : ∀ (k : Nat) (cs : Array Value), w.heap[k]? = some (.cells cs 5 (0, 0)) → w'.heap[k]? = w.heap[k]?) : BO w' v l := by
  rcases h with h | ⟨g, cap, cur, e, h1, h2, h3⟩
  · exact Or.inl h
  · exact Or.inr ⟨g, cap, cur, e, h1, (hk g cur h2).trans h2, h3⟩

set_option maxHeartbeats 1000000 in
set_option maxRecDepth 10000 in
theorem zzClone_any (v : Value) (l : List Int) (w : World) (h : BS w v l) (hl : l.length ≤ 1048576) :
    Calls Tryf.prog 22 #[v] w fun e w' => ∃ v', e = .returned v' ∧ BO w' v' l ∧ Below w.heap.size w w' := by
  obtain ⟨oa, c, rfl, hc, g⟩ := h
  obtain ⟨i5, hi, hz0, hz1, hz2⟩ := info_parts info5
  have G := hide g
  clear g hc
  go_enter Tryf.func22, Tryf.ntmps22
  go_upto_region 2 with (at_make; refine wpList_make_full _ rfl _ _ 33 rfl w.heap.size 5 i5 _ 1 Tryf.underlying33 hi hz0 hz1 .i64 .i64 _ _ l.length rfl rfl rfl rfl (by rw [hz2]; omega) (by unfold maxLen; omega) (Nat.le_refl _) ?_; intro w1 hown hgrow)
  have hb1 : Below w.heap.size w w1 := (Below.refl _ _).grown hgrow (Nat.le_refl _) (fun k hk => by cases hk)
  obtain ⟨cur, hrow, hsz⟩ : ∃ cur, w1.heap[w.heap.size]? = some (.cells cur 5 (0, 0)) ∧ cur.size = l.length := by
    obtain ⟨-, h | ⟨g, cap, cur, q1, q2, q3, q4, q5, q6, q7⟩⟩ := hown
    · exact absurd h.1 (by simp)
    · obtain ⟨rfl, rfl⟩ : w.heap.size = g ∧ l.length = cap := by simpa using q1
      exact ⟨cur, q3, by omega⟩
  have HB := hide hb1
  clear hown hgrow hi hz0 hz1 hz2
  by_cases hn : l = []
  · subst hn
    have hcp := fun ty => run_copy_none (P := Tryf.prog) w1 33 33 ty 5 (some ⟨w.heap.size, 0, none⟩) oa 0 0 0 c Tryf.underlying33 size5 rfl
    simp only [List.length_nil] at *
    clear hb1 hrow hsz
    go_wp2_with fail
    go_ret
    exact ⟨_, rfl, Or.inl ⟨_, _, rfl, rfl⟩, unhide HB⟩
  · obtain ⟨b, off, rfl, hb, hc⟩ := unhide G hn
    have hcp := fun ty => run_copy_row (P := Tryf.prog) w1 33 33 ty 5 w.heap.size 0 l.length l.length ⟨b, off, none⟩ l.length c cur 5 (cellsL l) Tryf.underlying33 size5 hrow (by simp [cellsL]) (BS.src (fun i hi => (hb1.cell (p := ⟨b, off + i, none⟩) hb).trans (hc i hi))) (by simp [cellsL]; omega) (fun v hv => by obtain ⟨x, _, rfl⟩ := List.mem_map.1 hv; rfl)
    have hlen : (cellsL l).length = l.length := by simp [cellsL]
    have hfin : Hid (BO (w1.setRow w.heap.size (cur.toList.take 0 ++ cellsL l ++ cur.toList.drop (0 + (cellsL l).length)).toArray) (.slice (some ⟨w.heap.size, 0, none⟩) l.length l.length) l ∧ Below w.heap.size w (w1.setRow w.heap.size (cur.toList.take 0 ++ cellsL l ++ cur.toList.drop (0 + (cellsL l).length)).toArray)) := by
      have hr := setRow_heap w1 w.heap.size cur (cur.toList.take 0 ++ cellsL l ++ cur.toList.drop (0 + (cellsL l).length)).toArray 5 (0, 0) hrow
      refine ⟨Or.inr ⟨_, _, _, rfl, Nat.le_refl _, hr, fun i hi => ?_⟩, below_setRow hb1 (Nat.le_refl _) _⟩
      rw [← cellsL_get l i hi]
      simp [List.getElem?_append, cellsL, hi]
    generalize (w1.setRow w.heap.size (cur.toList.take 0 ++ cellsL l ++ cur.toList.drop (0 + (cellsL l).length)).toArray) = W at *
    clear hb1 hrow hsz hc hb
    go_wp2_with fail
    go_ret
    exact ⟨_, rfl, (unhide hfin).1, (unhide hfin).2⟩

set_option maxHeartbeats 1000000 in
set_option maxRecDepth 10000 in
theorem bClone_any (v : Value) (l : List Int) (w : World) (h : BS w v l) (hl : l.length ≤ 1048576) :
    Calls Tryf.prog 37 #[v] w fun e w' => ∃ v', e = .returned v' ∧ BO w' v' l ∧ Below w.heap.size w w' := by
  obtain ⟨oa, c, rfl, hc, g⟩ := h
  obtain ⟨i5, hi, hz0, hz1, hz2⟩ := info_parts info5
  cases oa with
  | none =>
    obtain rfl : l = [] := by
      by_cases h : l = []
      · exact h
      · obtain ⟨b, off, e, _⟩ := g h; cases e
    have q := fun W => Lib.run_eql_slice_nil (P := Tryf.prog) W 33 5 none 0 c 0 0 Tryf.underlying33
    clear g hi hz0 hz1 hz2
    go_enter Tryf.func37, Tryf.ntmps37
    go_wp2_with fail
    go_ret
    exact ⟨_, rfl, Or.inl ⟨none, 0, rfl, rfl⟩, Below.refl _ _⟩
  | some a =>
    have q := fun W => Lib.run_eql_slice_nil (P := Tryf.prog) W 33 5 (some a) l.length c 0 0 Tryf.underlying33
    have hsrc : ∀ j u, (cellsL l)[j]? = some u → (w.alloc (.cells #[] 5)).cell? (a.add j) = some u := by
      intro j u hu
      have hj : j < l.length := by have := (List.getElem?_eq_some_iff.1 hu).1; simpa [cellsL] using this
      obtain ⟨b, off, e, hb, hcl⟩ := g (by rintro rfl; simp at hj)
      obtain rfl := Option.some.inj e
      rw [← BS.src hcl j u hu]
      refine World.cell?_alloc_lt _ _ _ ?_
      show ((⟨b, off, none⟩ : Addr).add j).block < _
      unfold Addr.add; split <;> simp_all
    have HS := hide hsrc
    clear g hsrc
    go_enter Tryf.func37, Tryf.ntmps37
    go_wp2_with (at_builtin; refine wpList_append_own _ rfl _ _ 33 rfl w.heap.size 5 i5 _ 1 1 Tryf.underlying33 hi hz0 hz1 hz2 rfl (by omega) _ _ _ rfl (World.ownsRow_made w #[] 0 (Nat.le_refl _) (Nat.zero_le _) (by simp)) a l.length c (cellsL l) rfl (by simp [cellsL]) (unhide HS) (fun u hu => by obtain ⟨x, _, rfl⟩ := List.mem_map.1 hu; rfl) (by unfold maxLen; omega) (by omega) (by simp) ?_; intro v' w' hown hgrow hnil)
    go_ret
    have hb0 : Below w.heap.size w (w.alloc (.cells #[] 5)) := (Below.refl _ _).alloc (Nat.le_refl _) _
    have hb : Below w.heap.size w w' := hb0.grown hgrow (by simp) (fun k hk => by
      have e : some w.heap.size = some k := hk
      injection e with e
      omega)
    refine ⟨v', rfl, ?_, hb⟩
    rw [Nat.zero_add, List.nil_append] at hown
    obtain ⟨-, h | ⟨g, cap, cur, rfl, q2, q3, q4, q5, q6, q7⟩⟩ := hown
    · obtain ⟨rfl, h2⟩ := h
      obtain rfl : l = [] := List.eq_nil_of_length_eq_zero h2
      exact Or.inl ⟨none, 0, rfl, rfl⟩
    · refine Or.inr ⟨g, cap, cur, rfl, q4, q3, fun i hi => ?_⟩
      rw [← cellsL_get l i hi, ← q7, List.getElem?_take, if_pos (by omega)]
      simp
end Go.Proofs.Qxb6612998aFmt
