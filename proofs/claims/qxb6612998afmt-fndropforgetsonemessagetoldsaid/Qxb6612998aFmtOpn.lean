import Derived.Test.Qxb6612998aFmtLaw
import Derived.ProofKit
import Derived.OpenShut
import Derived.RowKit
import Derived.Below
import Derived.Deep.Slices
namespace Go.Proofs.Qxb6612998aFmt
open Go.ChangeShapes Go.WideShapes Go.ChangeAt Go.RowKit

theorem ocells5 : Tryf.prog.cellsOf 5 = 1 := by kernel_rfl
theorem ocells37 : Tryf.prog.cellsOf 37 = 7 := by kernel_rfl

set_option maxRecDepth 100000 in
theorem open_bytes {H : Type} {enc : TypeId × Value → H} {W : World} {fuel : Nat} {cs : List Value} {y : DataW H × List MemPlace} (h : DataW.trod enc Tryf.prog W 0 (fun _ => true) true fuel 33 cs = some y) :
    ∃ oa c l, cs = [.slice oa l.length c] ∧ l.length ≤ 9223372036854775807 ∧ BI W W.heap.size (.slice oa l.length c) l := by
  rcases Go.Deep.open_slice1 Tryf.underlying33 ocells5 h with ⟨rfl, _⟩ | ⟨a, len, cap, m, n, V, D, Pl, rfl, _, hl, hm, hmm, _, hx⟩
  · exact ⟨none, 0, [], rfl, by simp, none, 0, rfl, Nat.le_refl _, fun h => absurd rfl h⟩
  · simp only [if_true] at hmm
    unfold maxLen at hm
    have each : ∀ i, i < len → ∃ x : Int, W.cell? (a.add i) = some (.int .u8 x) := by
      intro i hi
      obtain ⟨h1, h2⟩ := hx i (by omega)
      obtain ⟨x, hc, _, _⟩ := DataW.trod_int Tryf.underlying5 h2
      injection hc with hc
      exact ⟨x, by rw [h1, hc]⟩
    obtain ⟨X, hX⟩ := Go.Deep.choose_lt each
    have hll : ((List.range len).map X).length = len := by simp
    refine ⟨some a, cap, (List.range len).map X, by rw [hll], by rw [hll]; omega, some a, cap, rfl, by rw [hll]; exact hl, fun hne => ?_⟩
    rw [hll]
    have h0 : 0 < len := by
      rcases Nat.eq_zero_or_pos len with e | e
      · subst e; exact absurd rfl hne
      · exact e
    obtain ⟨b, off, spot⟩ := a
    have hc0 := hX 0 h0
    have hspot : spot = none := by simpa [Addr.add] using World.cell?_spot hc0
    subst hspot
    have hb : b < W.heap.size := by simpa [Addr.add] using World.block_lt_of_cell? _ _ hc0
    refine ⟨b, off, rfl, hb, hb, fun i hi => ?_⟩
    have h1 := hX i hi
    simp only [Addr.add_mid] at h1
    rw [h1]
    congr 2
    simp [List.getD, List.getElem?_map, List.getElem?_range hi]

theorem open_int1 {H : Type} {enc : TypeId × Value → H} {W : World} {t : TypeId} {k : IntKind} {fuel : Nat} {cs : List Value} {y : DataW H × List MemPlace} (j : Nat) (ht : Tryf.prog.underlying t = some (.int k)) (h : DataW.trod enc Tryf.prog W 0 (fun _ => true) true fuel t ((cs.drop j).take 1) = some y) :
    ∃ n, cs[j]? = some (.int k n) ∧ (Lit.int k n).wf = true := by
  obtain ⟨n, hc, _, hw⟩ := DataW.trod_int ht h
  have h2 : ((cs.drop j).take 1)[0]? = some (.int k n) := by rw [hc]; rfl
  exact ⟨n, by simpa using h2, hw⟩

theorem list7 {α : Type} {cs : List α} (h : cs.length = 7) : ∃ x0 x1 x2 x3 x4 x5 x6, cs = [x0, x1, x2, x3, x4, x5, x6] := by
  match cs, h with
  | [x0, x1, x2, x3, x4, x5, x6], _ => exact ⟨x0, x1, x2, x3, x4, x5, x6, rfl⟩

set_option maxRecDepth 100000 in
theorem open_step {H : Type} {enc : TypeId × Value → H} {W : World} {fuel : Nat} {cs : List Value} {y : DataW H × List MemPlace} (h : DataW.trod enc Tryf.prog W 0 (fun _ => true) true fuel 37 cs = some y) :
    ∃ (s : Stp) (da : Option Addr) (dc : Nat), cs = (box37 s da dc).toList ∧ okT s ∧ BI W W.heap.size (.slice da s.data.length dc) s.data := by
  obtain ⟨xs, n, _, _, hl, hlen, hf⟩ := DataW.trod_struct Tryf.underlying37 h
  rw [ocells37] at hl
  have hlen' : xs.length = 7 := hlen
  obtain ⟨y0, y1, y2, y3, y4, y5, y6, rfl⟩ := list7 hlen'
  have c31 : Tryf.prog.cellsOf 31 = 1 := by kernel_rfl
  have c3 : Tryf.prog.cellsOf 3 = 1 := by kernel_rfl
  have c2 : Tryf.prog.cellsOf 2 = 1 := by kernel_rfl
  have c33 : Tryf.prog.cellsOf 33 = 1 := by kernel_rfl
  have q0 : DataW.trod enc Tryf.prog W 0 (fun _ => true) true n 31 ((cs.drop 0).take (Tryf.prog.cellsOf 31)) = some y0 := hf 0 _ rfl
  have q1 : DataW.trod enc Tryf.prog W 0 (fun _ => true) true n 5 ((cs.drop 1).take (Tryf.prog.cellsOf 5)) = some y1 := hf 1 _ rfl
  have q2 : DataW.trod enc Tryf.prog W 0 (fun _ => true) true n 31 ((cs.drop 2).take (Tryf.prog.cellsOf 31)) = some y2 := hf 2 _ rfl
  have q3 : DataW.trod enc Tryf.prog W 0 (fun _ => true) true n 3 ((cs.drop 3).take (Tryf.prog.cellsOf 3)) = some y3 := hf 3 _ rfl
  have q4 : DataW.trod enc Tryf.prog W 0 (fun _ => true) true n 3 ((cs.drop 4).take (Tryf.prog.cellsOf 3)) = some y4 := hf 4 _ rfl
  have q5 : DataW.trod enc Tryf.prog W 0 (fun _ => true) true n 33 ((cs.drop 5).take (Tryf.prog.cellsOf 33)) = some y5 := hf 5 _ rfl
  have q6 : DataW.trod enc Tryf.prog W 0 (fun _ => true) true n 2 ((cs.drop 6).take (Tryf.prog.cellsOf 2)) = some y6 := hf 6 _ rfl
  rw [c31] at q0 q2
  rw [ocells5] at q1
  rw [c3] at q3 q4
  rw [c2] at q6
  rw [c33] at q5
  obtain ⟨n0, g0, w0⟩ := open_int1 0 Tryf.underlying31 q0
  obtain ⟨n1, g1, w1⟩ := open_int1 1 Tryf.underlying5 q1
  obtain ⟨n2, g2, w2⟩ := open_int1 2 Tryf.underlying31 q2
  obtain ⟨n3, g3, w3⟩ := open_int1 3 Tryf.underlying3 q3
  obtain ⟨n4, g4, w4⟩ := open_int1 4 Tryf.underlying3 q4
  obtain ⟨n6, g6, w6⟩ := open_int1 6 Tryf.underlying2 q6
  obtain ⟨da, dc, l, e5, hl5, hbi⟩ := open_bytes q5
  clear q0 q1 q2 q3 q4 q5 q6 hf h hlen hlen'
  have g5 : cs[5]? = some (.slice da l.length dc) := by
    have h2 : ((cs.drop 5).take 1)[0]? = some (.slice da l.length dc) := by rw [e5]; rfl
    simpa using h2
  clear e5
  refine ⟨⟨n0, n1, n2, n3, n4, l, n6⟩, da, dc, ?_, ⟨bounds_u8 w1, bounds_i64 w6, hl5⟩, hbi⟩
  obtain ⟨x0, x1, x2, x3, x4, x5, x6, rfl⟩ := list7 hl
  simp at g0 g1 g2 g3 g4 g5 g6
  subst g0 g1 g2 g3 g4 g5 g6
  rfl

set_option maxRecDepth 100000 in
theorem open_steps {H : Type} {enc : TypeId × Value → H} {W : World} {base : Nat} {v : Value} {d : DataW H} {p : List MemPlace}
    (hv : Value.okWide Tryf.prog W .any base 22 v) (h : DataW.Trod enc Tryf.prog W 0 (fun _ => true) true 22 v d p) :
    ∃ (oa : Option Addr) (n c : Nat) (ss : List Stp), v = .slice oa n c ∧ Scr W W.heap.size (.slice oa n c) ss ∧ (∀ s ∈ ss, okT s) ∧ n ≤ 9223372036854775807 := by
  obtain ⟨oa, len, cap, rfl⟩ := okWide_slice Tryf.underlying22 hv
  obtain ⟨fuel, hf⟩ := h
  rcases Go.Deep.open_slice Tryf.underlying22 hf with ⟨hcs, _⟩ | ⟨a, l, c, m, n, D, Pl, hcs, _, hl, hm, hmm, _, hx⟩
  · simp [Value.cells] at hcs
    obtain ⟨rfl, rfl, rfl⟩ := hcs
    exact ⟨none, 0, 0, [], rfl, ⟨none, 0, rfl, fun h => absurd rfl h⟩, fun s hs => by simp at hs, by omega⟩
  · simp [Value.cells] at hcs
    obtain ⟨rfl, rfl, rfl⟩ := hcs
    simp only [if_true] at hmm
    unfold maxLen at hm
    rw [ocells37] at hx
    have each : ∀ i, i < len → ∃ x : Stp × Option Addr × Nat, okT x.1 ∧ BI W W.heap.size (.slice x.2.1 x.1.data.length x.2.2) x.1.data ∧ ∀ j, j < 7 → W.cell? ((a.add (i * 7)).add j) = (box37 x.1 x.2.1 x.2.2)[j]? := by
      intro i hi
      obtain ⟨cs', hc, ht⟩ := hx i (by omega)
      obtain ⟨_, hlen, hget⟩ := World.cells?_some hc
      obtain ⟨s, da, dc, e, hok, hbi⟩ := open_step ht
      refine ⟨(s, da, dc), hok, hbi, fun j hj => ?_⟩
      rw [hget j hj, e, Array.getElem?_toList]
    haveI : Inhabited Stp := ⟨⟨0, 0, 0, 0, 0, [], 0⟩⟩
    obtain ⟨D', hD⟩ := Go.Deep.choose_lt each
    have hll : ((List.range len).map fun i => (D' i).1).length = len := by simp
    refine ⟨some a, len, cap, (List.range len).map fun i => (D' i).1, rfl, ⟨some a, cap, by rw [hll], fun hne => ?_⟩, fun s hs => ?_, by omega⟩
    · have h0 : 0 < len := by
        rcases Nat.eq_zero_or_pos len with e | e
        · subst e; exact absurd rfl hne
        · exact e
      obtain ⟨b, off, spot⟩ := a
      have hc0 : W.cell? ((Addr.add ⟨b, off, spot⟩ (0 * 7)).add 0) = some _ := (hD 0 h0).2.2 0 (by omega)
      have hspot : spot = none := by simpa [Addr.add] using World.cell?_spot hc0
      subst hspot
      have hb : b < W.heap.size := by simpa [Addr.add] using World.block_lt_of_cell? _ _ hc0
      refine ⟨b, off, rfl, hb, hb, fun i hi => ?_⟩
      have hi' : i < len := by rw [hll] at hi; exact hi
      obtain ⟨-, h2, h3⟩ := hD i hi'
      have hsi : ((List.range len).map fun i => (D' i).1)[i] = (D' i).1 := by simp
      rw [hsi]
      refine ⟨(D' i).2.1, (D' i).2.2, h2, fun j u hu => ?_⟩
      have hj : j < 7 := by
        have := (Array.getElem?_eq_some_iff.1 hu).1
        simpa [box37] using this
      have h4 := h3 j hj
      rw [Addr.add_mid, Addr.add_mid, hu] at h4
      exact h4
    · obtain ⟨i, hi, rfl⟩ := List.mem_map.1 hs
      exact (hD i (List.mem_range.1 hi)).1
end Go.Proofs.Qxb6612998aFmt
