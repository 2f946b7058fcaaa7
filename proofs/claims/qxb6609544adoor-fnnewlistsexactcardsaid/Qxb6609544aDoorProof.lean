import Derived.Test.Qxb6609544aDoorLaw
import Derived.Test.Qxb6609544aDoorRows
import Derived.Test.Qxb6609544aDoorCards
import Derived.Test.Qxb6609544aDoorTie
import Derived.ProofKit
import Derived.OpenShut
import Derived.ChangeOld
import Derived.ChangeSame
import Derived.ChangeVars
import Derived.JoinedOf
import Derived.RowKit
import Derived.LaidLaws
import Derived.LaidHandle
import Derived.Below
import Derived.Deep.Slices
import Derived.SevenTiedAt
namespace Go.Proofs.Qxb6609544aDoor
open Go.ChangeShapes Go.WideShapes Go.ChangeAt Go.RowKit

theorem own : ownKnob Tryd.prog.godebug = none := by kernel_rfl
theorem laidOut : laidOutB Tryd.prog = true := by kernel_rfl
theorem gz4 : Tryd.prog.globalNamed "net/netip.z4" = some 0 := by kernel_rfl
theorem gz0 : Tryd.prog.globalNamed "net/netip.z0" = some 1 := by kernel_rfl
theorem tz4 : (Tryd.prog.globals[0]?).map (·.type) = some 45 := by kernel_rfl
theorem tz0 : (Tryd.prog.globals[1]?).map (·.type) = some 45 := by kernel_rfl
theorem cells45 : Tryd.prog.cellsOf 45 = 1 := by kernel_rfl
theorem cells43 : Tryd.prog.cellsOf 43 = 1 := by kernel_rfl
theorem cells113 : Tryd.prog.cellsOf 113 = 2 := by kernel_rfl
theorem cells37 : Tryd.prog.cellsOf 37 = 8 := by kernel_rfl
theorem cells35 : Tryd.prog.cellsOf 35 = 4 := by kernel_rfl
theorem cells5 : Tryd.prog.cellsOf 5 = 1 := by kernel_rfl

theorem zs_of_laid {W : World} (h : laidMetH Tryd.prog Rows.fnNewListsExactRow.laid W) : ∃ zp, Zs W zp := by
  have h' : laidMet Tryd.prog [("net/netip.z4", Rows.laid_net_netip_z4), ("net/netip.z0", Rows.laid_net_netip_z0)] W := h
  obtain ⟨ps, ⟨g0', t0', cs0, f0, p0, q0, hg0', ht0', hv0, hd0, ⟨g1', t1', cs1, f1, p1, q1, hg1', ht1', hv1, hd1, _, e1⟩, e0⟩, hnd, hrows⟩ := h'
  obtain rfl := Option.some.inj (gz4.symm.trans hg0')
  obtain rfl := Option.some.inj (gz0.symm.trans hg1')
  obtain rfl := Option.some.inj (tz4.symm.trans ht0')
  obtain rfl := Option.some.inj (tz0.symm.trans ht1')
  obtain ⟨y0, n0, hx0, hl0, hy0⟩ := trod_struct1 Tryd.underlying45 hd0
  obtain ⟨y1, n1, hx1, hl1, hy1⟩ := trod_struct1 Tryd.underlying45 hd1
  rw [cells45] at hl0 hl1
  obtain ⟨y0d, y0p⟩ := y0
  obtain ⟨y1d, y1p⟩ := y1
  simp only [Rows.laid_net_netip_z4, Prod.mk.injEq, DataW.agg.injEq, List.cons.injEq, and_true] at hx0
  simp only [Rows.laid_net_netip_z0, Prod.mk.injEq, DataW.agg.injEq, List.cons.injEq, and_true] at hx1
  obtain ⟨rfl, rfl⟩ := hx0
  obtain ⟨rfl, rfl⟩ := hx1
  have hy0' : DataW.trod (fun _ => ()) Tryd.prog W 0 (fun _ => true) false n0 43 cs0.toList = some (.ptr (.agg [.lit (.bool false), .lit (.string [])]), p0) := by
    rw [← hy0]; show _ = DataW.trod _ _ _ _ _ _ _ 43 ((cs0.toList.drop 0).take (Tryd.prog.cellsOf 43))
    rw [cells43, List.drop_zero, List.take_of_length_le (by omega)]
  have hy1' : DataW.trod (fun _ => ()) Tryd.prog W 0 (fun _ => true) false n1 43 cs1.toList = some (.nil, p1) := by
    rw [← hy1]; show _ = DataW.trod _ _ _ _ _ _ _ 43 ((cs1.toList.drop 0).take (Tryd.prog.cellsOf 43))
    rw [cells43, List.drop_zero, List.take_of_length_le (by omega)]
  obtain ⟨f', a, cs', q, hcs0, hcells, _, _⟩ := ptr_of_trod Tryd.underlying43 hy0'
  have hcs1 : cs1.toList = [.pointer none] := by
    match hh : cs1.toList, hl1 with
    | [c], _ =>
      rw [hh] at hy1'
      cases n1 with
      | zero => simp [DataW.trod] at hy1'
      | succ n1 =>
        revert hy1'
        cases c with
        | pointer o =>
          cases o with
          | none => intro _; rfl
          | some b =>
            intro hy
            simp only [DataW.trod, Tryd.underlying43, Option.bind_eq_some_iff, Option.map_eq_some_iff, Prod.mk.injEq] at hy
            simp at hy
        | _ => intro hy; simp [DataW.trod, Tryd.underlying43] at hy
  obtain ⟨_, hlen, hget⟩ := World.cells?_some hcells
  rw [cells113] at hlen hget
  have hb : a.block < W.heap.size := by
    have h0 := hget 0 (by omega)
    rw [List.getElem?_eq_getElem (by omega)] at h0
    have := World.block_lt_of_cell? _ _ h0
    cases a; simpa [Addr.add] using this
  have c0 : W.cell? ⟨0, 0, none⟩ = some (.pointer (some a)) := by
    rw [World.var?_cell gz4 hv0 0, ← Array.getElem?_toList, hcs0]; rfl
  have c1 : W.cell? ⟨1, 0, none⟩ = some (.pointer none) := by
    rw [World.var?_cell gz0 hv1 0, ← Array.getElem?_toList, hcs1]; rfl
  have hs := World.block_lt_of_cell? _ _ c1
  exact ⟨a, c0, c1, hs, hb⟩

theorem arr4_num (a0 a1 a2 a3 : Int) (h0 : 0 ≤ a0 ∧ a0 ≤ 255) (h1 : 0 ≤ a1 ∧ a1 ≤ 255) (h2 : 0 ≤ a2 ∧ a2 ≤ 255) (h3 : 0 ≤ a3 ∧ a3 ≤ 255) : arr4 (num a0 a1 a2 a3) = [.int .u8 a0, .int .u8 a1, .int .u8 a2, .int .u8 a3] ∧ isN (num a0 a1 a2 a3) := by
  unfold arr4 num isN
  refine ⟨?_, by omega, by omega⟩
  congr 1
  · congr 1; omega
  · congr 1
    · congr 1; omega
    · congr 1
      · congr 1; omega
      · congr 1; congr 1; omega

set_option maxRecDepth 100000 in
theorem open_four {H : Type} {enc : TypeId × Value → H} {W : World} {base : Nat} {sp : Nat → Bool} {held : Bool} {fuel : Nat} {cs : List Value} {y : DataW H × List MemPlace} (h : DataW.trod enc Tryd.prog W base sp held fuel 35 cs = some y) : ∃ n, isN n ∧ cs = arr4 n := by
  obtain ⟨xs, m, _, _, hl, hn, hel⟩ := DataW.trod_array Tryd.underlying35 h
  rw [cells35] at hl
  have hint : ∀ i, i < 4 → ∃ n : Int, cs[i]? = some (.int .u8 n) ∧ 0 ≤ n ∧ n ≤ 255 := by
    intro i hi
    have h1 := hel i hi
    rw [cells5, Nat.mul_one, List.getElem?_eq_getElem (by omega)] at h1
    obtain ⟨n, hc, _, hw⟩ := DataW.trod_int Tryd.underlying5 h1
    have hb := bounds_u8 hw
    have h2 : ((cs.drop i).take 1)[0]? = some (.int .u8 n) := by rw [hc]; rfl
    exact ⟨n, by simpa using h2, by omega, by omega⟩
  obtain ⟨a0, g0, b0⟩ := hint 0 (by omega)
  obtain ⟨a1, g1, b1⟩ := hint 1 (by omega)
  obtain ⟨a2, g2, b2⟩ := hint 2 (by omega)
  obtain ⟨a3, g3, b3⟩ := hint 3 (by omega)
  obtain ⟨e, hN⟩ := arr4_num a0 a1 a2 a3 b0 b1 b2 b3
  refine ⟨_, hN, ?_⟩
  rw [e]
  obtain ⟨x0, x1, x2, x3, rfl⟩ : ∃ x0 x1 x2 x3, cs = [x0, x1, x2, x3] := by
    clear hel h g0 g1 g2 g3
    rcases cs with _ | ⟨x0, _ | ⟨x1, _ | ⟨x2, _ | ⟨x3, _ | ⟨x4, r⟩⟩⟩⟩⟩
    · cases hl
    · cases hl
    · cases hl
    · cases hl
    · exact ⟨x0, x1, x2, x3, rfl⟩
    · simp at hl
  simp at g0 g1 g2 g3
  subst g0 g1 g2 g3
  rfl

set_option maxRecDepth 100000 in
theorem open_r {H : Type} {enc : TypeId × Value → H} {W : World} {base : Nat} {v : Value} {d : DataW H} {p : List MemPlace}
    (hv : Value.okWide Tryd.prog W .any base 22 v) (h : DataW.Trod enc Tryd.prog W 0 (fun _ => true) true 22 v d p) :
    ∃ (oa : Option Addr) (N c : Nat) (D : Nat → Int × Int), v = .slice oa N c ∧ R8 W oa N D ∧ allN N D ∧ N ≤ 9223372036854775807 := by
  obtain ⟨oa, len, cap, rfl⟩ := okWide_slice Tryd.underlying22 hv
  obtain ⟨fuel, hf⟩ := h
  rcases Go.Deep.open_slice Tryd.underlying22 hf with ⟨hcs, _⟩ | ⟨a, l, c, m, n, D, Pl, hcs, _, hl, hm, hmm, _, hx⟩
  · simp [Value.cells] at hcs
    obtain ⟨rfl, rfl, rfl⟩ := hcs
    exact ⟨none, 0, 0, fun _ => (0, 0), rfl, fun h => absurd h (Nat.lt_irrefl 0), fun i hi => absurd hi (by omega), by omega⟩
  · simp [Value.cells] at hcs
    obtain ⟨rfl, rfl, rfl⟩ := hcs
    simp only [if_true] at hmm
    unfold maxLen at hm
    rw [cells37] at hx
    have each : ∀ i, i < len → ∃ x : Int × Int, isN x.1 ∧ isN x.2 ∧ ∀ j, j < 8 → W.cell? ((a.add (i * 8)).add j) = (enc8 x)[j]? := by
      intro i hi
      obtain ⟨cs', hc, ht⟩ := hx i (by omega)
      obtain ⟨_, hlen, hget⟩ := World.cells?_some hc
      obtain ⟨y0, y1, n', _, _, t0, t1⟩ := trod_struct2 Tryd.underlying37 ht
      have t0' : DataW.trod enc Tryd.prog W 0 (fun _ => true) true n' 35 ((cs'.drop 0).take (Tryd.prog.cellsOf 35)) = some y0 := t0
      have t1' : DataW.trod enc Tryd.prog W 0 (fun _ => true) true n' 35 ((cs'.drop 4).take (Tryd.prog.cellsOf 35)) = some y1 := t1
      rw [cells35] at t0' t1'
      obtain ⟨n0, hn0, e0⟩ := open_four t0'
      obtain ⟨n1, hn1, e1⟩ := open_four t1'
      refine ⟨(n0, n1), hn0, hn1, fun j hj => ?_⟩
      rw [hget j hj]
      have e : cs' = enc8 (n0, n1) := by
        show cs' = arr4 n0 ++ arr4 n1
        rw [← e0, ← e1, List.drop_zero, List.take_of_length_le (l := cs'.drop 4) (by simp; omega), List.take_append_drop]
      rw [e]
    obtain ⟨D', hD⟩ := Go.Deep.choose_lt each
    refine ⟨some a, len, cap, D', rfl, fun h0 => ?_, fun i hi => ⟨(hD i hi).1, (hD i hi).2.1⟩, by omega⟩
    obtain ⟨b, off, spot⟩ := a
    have hc0 : W.cell? ((Addr.add ⟨b, off, spot⟩ (0 * 8)).add 0) = some _ := ((hD 0 h0).2.2 0 (by omega)).trans (List.getElem?_eq_getElem (by show 0 < 8; omega))
    have hspot : spot = none := by simpa [Addr.add] using World.cell?_spot hc0
    subst hspot
    have hb : b < W.heap.size := by simpa [Addr.add] using World.block_lt_of_cell? _ _ hc0
    refine ⟨b, off, rfl, hb, fun i hi j hj => ?_⟩
    have := (hD i hi).2.2 j hj
    rw [Addr.add_mid, Addr.add_mid] at this
    exact this

noncomputable def low : Nat := (World.holding Tryd.prog default ⟨#[], #[], []⟩).heap.size
/-- A world that meets the condition: the settled one, z4's cell laid. -/
noncomputable def laidWorld (os : Os) : World :=
  let w0 := World.holding Tryd.prog os ⟨#[.cells #[.bool false, .string ⟨#[]⟩] 113], #[], []⟩
  { w0 with heap := w0.heap.modify 0 fun
      | .cells _ t frozen => .cells #[.pointer (some ⟨low, 0, none⟩)] t frozen
      | o => o }
theorem laid_met (os : Os) (args : Array Value) : laidMet Tryd.prog Rows.fnNewListsExactRow.laid ((laidWorld os).forCall (fun _ _ => 0) ⟨#[], args, []⟩).memory :=
  laidMet_of_run' 8 (by kernel_rfl) (by kernel_rfl)
theorem laidWorld_met (os : Os) (args : Array Value) : laidMetH Tryd.prog Rows.fnNewListsExactRow.laid ((laidWorld os).forCall (fun _ _ => 0) ⟨#[], args, []⟩).memory := laid_met os args

set_option maxRecDepth 100000 in
theorem lifted (os : Os) (started : os.Started) (H : Type) (enc : TypeId × Value → H) :
    ReturnsInHanded {} Tryd.checked os 3 .any (fun w args => (Rows.fnNewListsExactSpec.pre enc Tryd.prog Tryd.f3 [] false w args ∧ laidMetH Tryd.prog Rows.fnNewListsExactRow.laid w) ∧ sizedMet enc Tryd.prog Tryd.f3 (OpenSpec.ofChange Rows.fnNewListsExactSpec) false w args)
      (Rows.fnNewListsExactSpec.post enc Tryd.prog Tryd.f3 false true false false) := by
  refine returnsInHanded_of_change_and (C := Tryd.checked) (X := fun w _ => laidMetH Tryd.prog Rows.fnNewListsExactRow.laid w) (fun _ _ _ hh h => h.of_heap hh) own started (by kernel_rfl) Tryd.func3
    (ChangeSpec.witness_shaped (enc := enc) (C := Tryd.checked) (os := os) (X := fun w _ => laidMetH Tryd.prog Rows.fnNewListsExactRow.laid w) false (laidWorld os) #[.slice none 0 0, .slice none 0 0] 8 rfl (World.shaped_of_RefB (by kernel_rfl) (by kernel_rfl)) (by kernel_rfl) (by kernel_rfl) (by kernel_rfl) (laidWorld_met os _)) ?_
  intro W base args ds gs before hval0 hW _ _ hL _
  have hval : ∀ (j : Nat) t v, Tryd.f3.params[j]? = some t → args[j]? = some v → Value.okWide Tryd.prog W .any base t v := hval0
  have hW' := hW
  obtain ⟨p, q, hA0, hV, rfl, hfz, hnd⟩ := hW
  have hA : DataW.TrodAll enc Tryd.prog W 0 (fun _ => true) true Tryd.f3.params.toList args.toList ds p := hA0
  rw [Tryd.params3] at hA hval
  obtain ⟨v0, vs0, d0, ds0, p0, q0, hargs, rfl, rfl, h0, r0⟩ := trodAll_cons hA
  obtain ⟨v1, vs1, d1, ds1, p1, q1, rfl, rfl, rfl, h1, r1⟩ := trodAll_cons r0
  obtain ⟨rfl, rfl, rfl⟩ := trodAll_nil r1
  obtain rfl : args = #[v0, v1] := by cases args; simp_all
  obtain ⟨rfl, rfl⟩ := trodVars_none hV
  have lt0 : ∀ x ∈ p0, x.block < W.heap.size := by obtain ⟨m, hm⟩ := h0; exact DataW.trod_lt m _ _ _ hm
  have lt1 : ∀ x ∈ p1, x.block < W.heap.size := by obtain ⟨m, hm⟩ := h1; exact DataW.trod_lt m _ _ _ hm
  obtain ⟨zp, hz⟩ := zs_of_laid hL
  obtain ⟨oa, N, c1, D1, rfl, s1, s2, s3⟩ := open_r (hval 0 22 v0 rfl rfl) h0
  obtain ⟨ob, M, c2, D2, rfl, t1, t2, t3⟩ := open_r (hval 1 22 v1 rfl rfl) h1
  clear hA0 hval0
  refine (law_any W zp oa ob N M c1 c2 D1 D2 hz s1 t1 s2 t2 s3 t3).mono fun e W' ⟨he, bel⟩ => ?_
  subst he
  exact ⟨_, rfl, _, _, _, [], _, [], hW', trodAll_mk1 (shut_bool Tryd.underlying4 _), (trodAll_cons_mk (Below.trod laidOut (by kernel_rfl) (of_decide_eq_true (by kernel_rfl)) h0 bel lt0) (trodAll_cons_mk (Below.trod laidOut (by kernel_rfl) (of_decide_eq_true (by kernel_rfl)) h1 bel lt1) trodAll_mk0)), rfl, bel.frame _, fun h => by cases h⟩

theorem row_holds : Rows.FnNewListsExactSaid :=
  OpenClaim.holds_of_wide 3 Tryd.f3 rfl rfl rfl rfl rfl rfl rfl ⟨rfl, rfl, rfl, rfl, rfl⟩ rfl rfl rfl rfl rfl (by kernel_rfl) Tryd.func3 (by kernel_rfl)
    (of_decide_eq_true (by kernel_rfl)) (by unfold Func.isWrapper; first | (rw [if_pos (by decide +kernel)]; kernel_rfl) | (rw [if_neg (by decide +kernel)]; exact ⟨rfl, rfl⟩))
    (fun os started H enc _ => lifted os started H enc)
end Go.Proofs.Qxb6609544aDoor
