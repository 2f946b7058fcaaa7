import Derived.Test.Qxb6609544aDoorFr
import Derived.Deep.RegionLaw
namespace Go.Proofs.Qxb6609544aDoor
open Go.RowKit Go.Sort

theorem Tree.none_iff {w : World} {zp : Addr} {k f : Nat} {p : Option Addr} {l : List (Int × Int)} (h : Tree w zp k f p l) : (p = none ∧ l = []) ∨ ((∃ B, p = some ⟨B, 0, none⟩) ∧ l ≠ []) := by
  cases f with
  | zero => exact Or.inl h
  | succ f =>
    rcases h with h | ⟨B, x, pl, pr, ls, rs, h1, h2, h3, -⟩
    · exact Or.inl h
    · exact Or.inr ⟨⟨B, h1⟩, by rw [h3]; simp⟩

/-- How things stand behind the two calls. -/
def St14 (w W : World) (k O : Nat) (v v3 : Value) (L : List (Int × Int)) (A10 A15 : Nat) (lb rb qb : Array Value) : Prop := Out W O v3 L ∧ Fr w.heap.size O v w W v3 ∧ Below k w W ∧ W.heap[w.heap.size]? = some (.cells #[.int .u8 0, .int .u8 0, .int .u8 0, .int .u8 0] 35 (0, 0)) ∧ W.heap[A10]? = some (.cells lb 35 (0, 0)) ∧ W.heap[A15]? = some (.cells rb 35 (0, 0)) ∧ W.heap[A15 + 1]? = some (.cells qb 35 (0, 0)) ∧ w.heap.size < A10 ∧ A10 < A15 ∧ A15 + 2 ≤ W.heap.size
theorem St14.below {w W W' : World} {k O : Nat} {v v3 : Value} {L : List (Int × Int)} {A10 A15 : Nat} {lb rb qb : Array Value} (h : St14 w W k O v v3 L A10 A15 lb rb qb) (hb : Below W.heap.size W W') (hk : k ≤ w.heap.size) : St14 w W' k O v v3 L A10 A15 lb rb qb := by
  obtain ⟨h1, h2, h3, h4, h5, h6, h7, h8, h9, h10⟩ := h
  have hs := hb.size
  have hs2 := h2.size
  exact ⟨h1.below hb, h2.below (hb.mono hs2), h3.trans (hb.mono (by omega)), (hb.block _ (by omega)).trans h4, (hb.block _ (by omega)).trans h5, (hb.block _ (by omega)).trans h6, (hb.block _ (by omega)).trans h7, h8, h9, by omega⟩
def set4 (W : World) (A : Nat) (v0 v1 v2 v3 : Value) : World := (((W.setCell ⟨A, 0, none⟩ v0).setCell ⟨A, 1, none⟩ v1).setCell ⟨A, 2, none⟩ v2).setCell ⟨A, 3, none⟩ v3
theorem set4_block (W : World) (A : Nat) (v0 v1 v2 v3 : Value) (q : Nat) (h : q ≠ A) : (set4 W A v0 v1 v2 v3).heap[q]? = W.heap[q]? := by
  unfold set4
  rw [Below.heap_setCell _ _ _ _ (by show q ≠ A; exact h), Below.heap_setCell _ _ _ _ (by show q ≠ A; exact h), Below.heap_setCell _ _ _ _ (by show q ≠ A; exact h), Below.heap_setCell _ _ _ _ (by show q ≠ A; exact h)]
theorem set4_size (W : World) (A : Nat) (v0 v1 v2 v3 : Value) : (set4 W A v0 v1 v2 v3).heap.size = W.heap.size := by unfold set4; simp only [size_setCell]
theorem set4_new {W : World} {A : Nat} {y0 y1 y2 y3 : Value} (h : W.heap[A]? = some (.cells #[y0, y1, y2, y3] 35 (0, 0))) (v0 v1 v2 v3 : Value) : (set4 W A v0 v1 v2 v3).heap[A]? = some (.cells #[v0, v1, v2, v3] 35 (0, 0)) := by
  have h0 := heap_setCell_row h 0 v0
  have h1 := heap_setCell_row h0 1 v1
  have h2 := heap_setCell_row h1 2 v2
  have h3 := heap_setCell_row h2 3 v3
  unfold set4
  rw [h3]
  simp
theorem below_set4 {W u : World} {A k : Nat} (hk : k ≤ A) (h : Below k u W) (v0 v1 v2 v3 : Value) : Below k u (set4 W A v0 v1 v2 v3) := (((h.setCell hk _).setCell hk _).setCell hk _).setCell hk _
theorem Out.far {W : World} {O : Nat} {v : Value} {L : List (Int × Int)} (h : Out W O v L) {A : Nat} (hA : A ≠ O) (hv : v.ownBlock ≠ some A) (v0 v1 v2 v3 : Value) : Out (set4 W A v0 v1 v2 v3) O v L := by
  obtain ⟨h1, h2, h3, h4⟩ := h
  have hb := set4_block W A v0 v1 v2 v3 O (Ne.symm hA)
  exact ⟨(World.cell?_of_block (a := ⟨O, 0, none⟩) hb).trans h1, (World.frozen?_of_block (a := ⟨O, 0, none⟩) hb).trans h2, ownsRow_block h3 (fun g hg => set4_block _ _ _ _ _ _ _ (fun e => hv (by rw [hg, e]))), by rw [set4_size]; exact h4⟩
theorem St14.put {w W : World} {k O : Nat} {v v3 : Value} {L : List (Int × Int)} {A10 A15 : Nat} {lb rb : Array Value} {y0 y1 y2 y3 : Value} (h : St14 w W k O v v3 L A10 A15 lb rb #[y0, y1, y2, y3]) (hk : k ≤ w.heap.size) (hO : O < w.heap.size) (u0 u1 u2 u3 : Value) (hv : v3.ownBlock ≠ some (A15 + 1)) : St14 w (set4 W (A15 + 1) u0 u1 u2 u3) k O v v3 L A10 A15 lb rb #[u0, u1, u2, u3] := by
  obtain ⟨h1, h2, h3, h4, h5, h6, h7, h8, h9, h10⟩ := h
  have hb : Below (A15 + 1) W (set4 W (A15 + 1) u0 u1 u2 u3) := below_set4 (Nat.le_refl _) (Below.refl _ _) _ _ _ _
  exact ⟨h1.far (by omega) hv _ _ _ _, h2.below (hb.mono (by omega)), h3.trans (hb.mono (by omega)), (set4_block _ _ _ _ _ _ _ (by omega)).trans h4, (set4_block _ _ _ _ _ _ _ (by omega)).trans h5, (set4_block _ _ _ _ _ _ _ (by omega)).trans h6, set4_new h7 _ _ _ _, h8, h9, by rw [set4_size]; exact h10⟩
theorem Out.not35 {W : World} {O : Nat} {v : Value} {L : List (Int × Int)} (h : Out W O v L) {A : Nat} {cs : Array Value} (hA : W.heap[A]? = some (.cells cs 35 (0, 0))) : v.ownBlock ≠ some A := by
  obtain ⟨-, -, ⟨-, h | ⟨g, cap, cur, rfl, e2, e3, e4⟩⟩, -⟩ := h
  · rw [h.1]; intro e; cases e
  · intro e
    have e' : some g = some A := e
    injection e' with e''
    subst e''
    rw [hA] at e3
    injection e3 with e3
    injection e3 with _ e3
    exact absurd e3 (by decide)
theorem St14.final {w W : World} {k O : Nat} {v v3 : Value} {L0 l : List (Int × Int)} {A10 A15 : Nat} {lb rb qb : Array Value} (h : St14 w W k O v v3 (L0 ++ l) A10 A15 lb rb qb) (hO : O < w.heap.size) (u0 u1 u2 u3 : Value) : Wk w O v L0 l (set4 W w.heap.size u0 u1 u2 u3) := by
  obtain ⟨h1, h2, h3, h4, h5, h6, h7, h8, h9, h10⟩ := h
  exact ⟨v3, h1.far (by omega) (h1.not35 h4) _ _ _ _, h2.below (below_set4 (Nat.le_refl _) (Below.refl _ _) _ _ _ _)⟩
theorem St14.drew {w W : World} {k O : Nat} {v v3 : Value} {L : List (Int × Int)} {A10 A15 : Nat} {lb rb qb : Array Value} (h : St14 w W k O v v3 L A10 A15 lb rb qb) (hk : k ≤ w.heap.size) : St14 w W.drew k O v v3 L A10 A15 lb rb qb := h.below (Below.refl _ _).drew hk
theorem cells4 {W : World} {A : Nat} {y0 y1 y2 y3 : Value} (h : W.heap[A]? = some (.cells #[y0, y1, y2, y3] 35 (0, 0))) : (W.cell? ⟨A, 0, none⟩ = some y0 ∧ W.cell? ⟨A, 1, none⟩ = some y1 ∧ W.cell? ⟨A, 2, none⟩ = some y2 ∧ W.cell? ⟨A, 3, none⟩ = some y3) ∧ ∀ j, W.frozen? ⟨A, j, none⟩ = false := by
  have q : ∀ j, W.cell? ⟨A, j, none⟩ = #[y0, y1, y2, y3][j]? := fun j => cell_of_row _ _ _ _ _ _ h
  exact ⟨⟨q 0, q 1, q 2, q 3⟩, fun j => frozen_of_row _ _ _ _ _ h⟩
theorem n35 (h0 h1 h2 h3 : Int) (w : World) : (binOp .neq 35 (.agg #[.int .u8 h0, .int .u8 h1, .int .u8 h2, .int .u8 h3]) (.agg #[.int .u8 h0, .int .u8 h1, .int .u8 h2, .int .u8 h3])).run Tryd.prog w = .ok (.bool false) w := by
  rw [run_neq_struct, show (10000 : Nat) = 9999 + 1 from rfl]
  have e : ∀ h w, (Op.equalIn 9999 5 (.int .u8 h) (.int .u8 h)).run Tryd.prog w = .ok true w := fun h w => by
    rw [show (9999 : Nat) = 9998 + 1 from rfl]
    unfold Op.equalIn
    simp [run_underlying Tryd.underlying5]
  generalize hn : (9999 : Nat) = n at *
  unfold Op.equalIn
  simp [run_underlying Tryd.underlying35, List.range', part, Tryd.isAgg5, e]
theorem cmpI_pos {a b : Int} : 0 < cmpI a b ↔ b < a := by unfold cmpI; split <;> (try split) <;> omega
theorem lt_of_za {W : World} {A : Nat} (h : Za W A) : A < W.heap.size := by
  rcases Nat.lt_or_ge A W.heap.size with h' | h'
  · exact h'
  · unfold Za at h; rw [Array.getElem?_eq_none h'] at h; cases h
def WalkC (O : Nat) (p : Option Addr) (l : List (Int × Int)) (w : World) (v : Value) (L0 : List (Int × Int)) : Prop :=
  Calls Tryd.prog 27 #[.pointer p, .pointer (some ⟨O, 0, none⟩)] w fun e w' => e = .returned (.tuple #[.int .i64 (l.length : Nat), .agg (arr4 (rv l)).toArray, .bool true]) ∧ Wk w O v L0 l w'

theorem walk_none (O : Nat) (w : World) (v : Value) (L0 : List (Int × Int)) (hO : Out w O v L0) : WalkC O none [] w v L0 := by
  unfold WalkC
  have HO := hide hO
  clear hO
  have er : Hid ((arr4 (rv [])).toArray = #[.int .u8 0, .int .u8 0, .int .u8 0, .int .u8 0]) := rfl
  rw [unhide er]
  go_enter Tryd.func27, Tryd.ntmps27
  go_wp2_with fail
  have hb : Below w.heap.size w (w.alloc (.cells #[.int .u8 0, .int .u8 0, .int .u8 0, .int .u8 0] 35)) := (Below.refl _ _).alloc (Nat.le_refl _) _
  exact bodyPost_ret (v := .tuple #[.int .i64 0, .agg #[.int .u8 0, .int .u8 0, .int .u8 0, .int .u8 0], .bool true]) (by simp [results, Tryd.results27, go_sem]) rfl ⟨rfl, v, by rw [List.append_nil]; exact (unhide HO).below hb, (Fr.refl _ _ _ _).below hb⟩

theorem out_cell {wc w10 : World} {O : Nat} {v1 : Value} {L : List (Int × Int)} {o : Obj} (ho : Out wc O v1 L) (hg : (wc.alloc o).drew.grownBy w10 v1.ownBlock) : w10.cell? ⟨O, 0, none⟩ = some v1 ∧ w10.frozen? ⟨O, 0, none⟩ = false := by
  have hown1 := ho.own
  obtain ⟨h1, h2, h3, h4⟩ := ho
  have hsz : (wc.alloc o).drew.heap.size = wc.heap.size + 1 := by simp [World.drew]
  have hOv : some O ≠ v1.ownBlock := fun e => by have := (hown1 O e.symm).1; omega
  have hbO : w10.heap[O]? = wc.heap[O]? := by
    rw [hg.block O (by rw [hsz]; omega) hOv]; exact Below.heap_alloc wc o O (by omega)
  exact ⟨(World.cell?_of_block (a := ⟨O, 0, none⟩) hbO).trans h1, (World.frozen?_of_block (a := ⟨O, 0, none⟩) hbO).trans h2⟩
/-- The append's world, stored. -/
theorem out_append {wc w10 : World} {O : Nat} {v1 : Value} {L : List (Int × Int)} {x : Int × Int} {gg cap : Nat} {o : Obj} (ho : Out wc O v1 L) (hown : w10.ownsRow (O + 1) 37 8 (.slice (some ⟨gg, 0, none⟩) (L.length + 1) cap) (L.length + 1) (flat8 L ++ enc8 x)) (hg : (wc.alloc o).drew.grownBy w10 v1.ownBlock) (hat : v1.ownBlock = some gg ∨ gg = wc.heap.size + 1) :
    Out (w10.setCell ⟨O, 0, none⟩ (.slice (some ⟨gg, 0, none⟩) (L.length + 1) cap)) O (.slice (some ⟨gg, 0, none⟩) (L.length + 1) cap) (L ++ [x]) ∧ Fr wc.heap.size O v1 wc (w10.setCell ⟨O, 0, none⟩ (.slice (some ⟨gg, 0, none⟩) (L.length + 1) cap)) (.slice (some ⟨gg, 0, none⟩) (L.length + 1) cap) := by
  have hown1 := ho.own
  obtain ⟨h1, h2, h3, h4⟩ := ho
  have hsz : (wc.alloc o).drew.heap.size = wc.heap.size + 1 := by simp [World.drew]
  have hs := hg.size
  rw [hsz] at hs
  have hOv : some O ≠ v1.ownBlock := fun e => by have := (hown1 O e.symm).1; omega
  have hbO : w10.heap[O]? = wc.heap[O]? := by
    rw [hg.block O (by rw [hsz]; omega) hOv]; exact Below.heap_alloc wc o O (by omega)
  have hO10 : w10.cell? ⟨O, 0, none⟩ = some v1 := (World.cell?_of_block (a := ⟨O, 0, none⟩) hbO).trans h1
  have hggO : O + 1 ≤ gg := by
    rcases hat with e | e
    · exact (hown1 gg e).1
    · omega
  refine ⟨⟨World.cell?_setCell_same _ _ _ hO10, ?_, ?_, ?_⟩, ?_⟩
  · rw [World.frozen?_setCell]; exact (World.frozen?_of_block (a := ⟨O, 0, none⟩) hbO).trans h2
  · rw [flat8_snoc, List.length_append]
    refine ownsRow_block hown (fun g hg' => ?_)
    have e1 : some gg = some g := hg'
    injection e1 with e2
    subst e2
    exact Below.heap_setCell _ _ _ _ (by show gg ≠ O; omega)
  · rw [size_setCell]; omega
  · refine ⟨hg.os, hg.tape, hg.output, by rw [size_setCell]; omega, fun q hq q1 q2 => ?_, fun g hg' => ?_⟩
    · rw [Below.heap_setCell _ _ _ _ (by show q ≠ O; exact q1), hg.block q (by rw [hsz]; omega) (fun e => q2 e.symm)]
      exact Below.heap_alloc wc o q hq
    · have e1 : some gg = some g := hg'
      injection e1 with e2
      subst e2
      rcases hat with e | e
      · exact Or.inl e
      · exact Or.inr (by omega)

set_option maxHeartbeats 4000000 in
set_option maxRecDepth 10000 in
theorem walk_any (zp : Addr) (k O : Nat) (hkO : k ≤ O) (hk2 : 2 ≤ k) : ∀ (f : Nat) (p : Option Addr) (l : List (Int × Int)) (w : World) (v : Value) (L0 : List (Int × Int)), Tree w zp k f p l → Zs w zp → Out w O v L0 → allL l → L0.length + l.length ≤ 1048576 → WalkC O p l w v L0 := by
  intro f
  induction f with
  | zero =>
    rintro p l w v L0 ⟨rfl, rfl⟩ hz hO ha hl
    exact walk_none O w v L0 hO
  | succ f ih =>
    rintro p l w v L0 (⟨rfl, rfl⟩ | ⟨B, x, pl, pr, ls, rs, rfl, hB, rfl, hN, hbal1, hbal2, tl, tr⟩) hz hO ha hl
    · exact walk_none O w v L0 hO
    · have hxl : isN x.1 ∧ isN x.2 := ha x (by simp)
      have als : allL ls := fun y hy => ha y (by simp [hy])
      have ars : allL rs := fun y hy => ha y (by simp [hy])
      have hlen : (ls ++ x :: rs).length = ls.length + rs.length + 1 := by simp; omega
      have eN : Hid (∀ W, Below k w W → Node W zp B x pl pr ((ls ++ x :: rs).length : Int) (mxL (ls ++ x :: rs))) := fun W h => hN.below h hB
      have eR := mxL_mid ls rs x als hxl ars
      have hOk : Hid (∀ g, v.ownBlock = some g → k ≤ g) := fun g hg => by have := (hO.own g hg).1; omega
      have hsz := hO.2.2.2
      obtain ⟨b0, b1, b2, b3, eb⟩ := bytes4 (rv ls)
      obtain ⟨c0, c1, c2, c3, ec⟩ := bytes4 (rv rs)
      obtain ⟨d0, d1, d2, d3, ed⟩ := bytes4 x.1
      obtain ⟨e0, e1, e2, e3, ee⟩ := bytes4 x.2
      have IHl : Hid (∀ W, Below w.heap.size w W → Calls Tryd.prog 27 #[.pointer pl, .pointer (some ⟨O, 0, none⟩)] W fun e w' => e = .returned (.tuple #[.int .i64 (ls.length : Nat), .agg #[.int .u8 b0, .int .u8 b1, .int .u8 b2, .int .u8 b3], .bool true]) ∧ Wk W O v L0 ls w') := by
        intro W hW
        have h := ih pl ls W v L0 (tl.below (hW.mono (by omega))) (hz.below hW) (hO.below hW) als (by omega)
        unfold WalkC at h
        rw [eb] at h
        exact h
      have IHr : Hid (∀ W v', Below k w W → Out W O v' (L0 ++ ls ++ [x]) → Calls Tryd.prog 27 #[.pointer pr, .pointer (some ⟨O, 0, none⟩)] W fun e w' => e = .returned (.tuple #[.int .i64 (rs.length : Nat), .agg #[.int .u8 c0, .int .u8 c1, .int .u8 c2, .int .u8 c3], .bool true]) ∧ Wk W O v' (L0 ++ ls ++ [x]) rs w') := by
        intro W v' hW hv'
        have h := ih pr rs W v' (L0 ++ ls ++ [x]) (tr.below hW) (hz.belowK hk2 hW) hv' ars (by simp; omega)
        unfold WalkC at h
        rw [ec] at h
        exact h
      have HZ := hide hz
      have HO := hide hO
      have HX := hide hxl
      have HL := hide hl
      have K39 : Hid (∀ W, Below k w W → Calls Tryd.prog 39 #[.pointer (some ⟨B, 0, none⟩)] W fun e w' => e = .returned (.pointer pl) ∧ w' = W) := fun W h => left_any W zp B x pl pr _ _ (unhide eN W h)
      have K40 : Hid (∀ W, Below k w W → Calls Tryd.prog 40 #[.pointer (some ⟨B, 0, none⟩)] W fun e w' => e = .returned (.pointer pr) ∧ w' = W) := fun W h => right_any W zp B x pl pr _ _ (unhide eN W h)
      have hkw : k ≤ w.heap.size := by omega
      obtain ⟨a1, ha1⟩ : ∃ a, a = 281470681743360 + x.1 := ⟨_, rfl⟩
      obtain ⟨a2, ha2⟩ : ∃ a, a = 281470681743360 + x.2 := ⟨_, rfl⟩
      have e6 : (enc6 zp x).toArray = #[.int .u64 0, .int .u64 a1, .pointer (some zp), .int .u64 0, .int .u64 a2, .pointer (some zp)] := by rw [ha1, ha2]; rfl
      have K41 : Hid (∀ W, Below k w W → Calls Tryd.prog 41 #[.pointer (some ⟨B, 0, none⟩)] W fun e w' => e = .returned (.agg #[.int .u64 0, .int .u64 a1, .pointer (some zp), .int .u64 0, .int .u64 a2, .pointer (some zp)]) ∧ Gr W w') := fun W h => by
        have q := entry_any W zp B x pl pr _ _ (by have := h.size; omega) (unhide eN W h)
        rw [e6] at q; exact q
      have K42 : Hid (∀ W, Zs W zp → Calls Tryd.prog 42 #[.agg #[.int .u64 0, .int .u64 a1, .pointer (some zp), .int .u64 0, .int .u64 a2, .pointer (some zp)]] W fun e w' => e = .returned (.agg #[.int .u8 d0, .int .u8 d1, .int .u8 d2, .int .u8 d3]) ∧ Below W.heap.size W w') := fun W h => by
        have q := first4_any x hxl.1 zp W h
        rw [e6, ed] at q; exact q
      have K43 : Hid (∀ W, Zs W zp → Calls Tryd.prog 43 #[.agg #[.int .u64 0, .int .u64 a1, .pointer (some zp), .int .u64 0, .int .u64 a2, .pointer (some zp)]] W fun e w' => e = .returned (.agg #[.int .u8 e0, .int .u8 e1, .int .u8 e2, .int .u8 e3]) ∧ Below W.heap.size W w') := fun W h => by
        have q := last4_any x hxl.2 zp W h
        rw [e6, ee] at q; exact q
      have K44 : Hid (∀ W, Below k w W → Calls Tryd.prog 44 #[.pointer (some ⟨B, 0, none⟩)] W fun e w' => e = .returned (.int .i64 ((ls.length : Int) + (rs.length : Int) + 1)) ∧ w' = W) := fun W h => by
        have q := size_any W zp B x pl pr _ _ (unhide eN W h)
        rw [show (((ls ++ x :: rs).length : Nat) : Int) = (ls.length : Int) + (rs.length : Int) + 1 by rw [hlen]; omega] at q
        exact q
      have BL0 : Hid (Below k w (w.alloc (.cells #[.int .u8 0, .int .u8 0, .int .u8 0, .int .u8 0] 35))) := (Below.refl _ _).alloc (by omega) _
      have BL0' : Hid (Below w.heap.size w (w.alloc (.cells #[.int .u8 0, .int .u8 0, .int .u8 0, .int .u8 0] 35))) := (Below.refl _ _).alloc (by omega) _
      have PB := hide hbal1
      have PC := hide hbal2
      have HEe := hide ee
      have HEb := hide eb
      have HEc := hide ec
      have HEd := hide ed
      have HER := hide eR
      have PLN := hide tl.none_iff
      have PRN := hide tr.none_iff
      have HTl := hide tl
      have HTr := hide tr
      unfold WalkC
      clear ih hN hz hO hxl hl tl tr hbal1 hbal2 ee eb ec ed eR e6 ha1 ha2
      go_enter Tryd.func27, Tryd.ntmps27
      go_wp2_with (first
        | (go_at_call 39; refine Calls.mono (unhide K39 _ (unhide BL0)) ?_; rintro e w8 ⟨rfl, rfl⟩)
        | (go_at_call 40; refine Calls.mono (unhide K40 _ (unhide BL0)) ?_; rintro e w8 ⟨rfl, rfl⟩)
        | (go_at_call 27; refine Calls.mono (unhide IHl _ (unhide BL0')) ?_; rintro e w1 ⟨rfl, HW1⟩; replace HW1 := hide HW1))
      obtain ⟨v1, o1, f1⟩ := unhide HW1
      have hs1 := f1.size
      have hsA : (w.alloc (.cells #[.int .u8 0, .int .u8 0, .int .u8 0, .int .u8 0] 35)).heap.size = w.heap.size + 1 := by simp
      rw [hsA] at f1 hs1
      have hov : ∀ g, v.ownBlock = some g → O + 1 ≤ g ∧ g < w.heap.size := (unhide HO).own
      have rb1 : w1.heap[w.heap.size]? = some (.cells #[.int .u8 0, .int .u8 0, .int .u8 0, .int .u8 0] 35 (0, 0)) := by
        rw [f1.block _ (by omega) (by omega) (fun e => by have := (hov _ e).2; omega)]; exact heap_alloc_new _ _
      have F1 : Hid (Fr w.heap.size O v w w1 v1) := (((Fr.refl w.heap.size O v w).below (unhide BL0')).trans f1 (by omega))
      have B1 : Hid (Below k w w1) := (unhide F1).toBelow hkw hkO (unhide hOk)
      have V1R : Hid (v1.ownBlock ≠ some w.heap.size) := fun e => by
        rcases f1.own _ e with e' | e'
        · have := (hov _ e').2; omega
        · omega
      have O1 := hide o1
      have RB1 := hide rb1
      have hs1' : w.heap.size < w1.heap.size := by omega
      clear HW1 o1 f1 hs1 hsA hov rb1
      have b5 : Hid (Below w1.heap.size w1 (w1.alloc (.cells #[.int .u8 b0, .int .u8 b1, .int .u8 b2, .int .u8 b3] 35))) := (Below.refl _ _).alloc (Nat.le_refl _) _
      refine Calls.mono (unhide K41 _ ((unhide B1).trans ((unhide b5).mono (by omega)))) ?_
      rintro e w2 ⟨rfl, g2⟩
      have BL2 : Hid (Below w1.heap.size w1 w2 ∧ w2.heap[w1.heap.size]? = some (.cells #[.int .u8 b0, .int .u8 b1, .int .u8 b2, .int .u8 b3] 35 (0, 0)) ∧ w1.heap.size + 1 ≤ w2.heap.size) := by
        have hb := g2.below
        have hs : (w1.alloc (.cells #[.int .u8 b0, .int .u8 b1, .int .u8 b2, .int .u8 b3] 35)).heap.size = w1.heap.size + 1 := by simp
        rw [hs] at hb
        exact ⟨(unhide b5).trans (hb.mono (by omega)), (hb.block _ (by omega)).trans (heap_alloc_new _ _), by rw [← hs]; exact hb.size⟩
      clear g2 b5
      go_upto_region 9 with fail
      have HZ8 : Hid (Zs (w2.alloc (.cells #[.int .u64 0, .int .u64 a1, .pointer (some zp), .int .u64 0, .int .u64 a2, .pointer (some zp)] 49)) zp) := (((unhide HZ).belowK hk2 (unhide B1)).below (unhide BL2).1).alloc _
      have h8n : Hid ((w2.alloc (.cells #[.int .u64 0, .int .u64 a1, .pointer (some zp), .int .u64 0, .int .u64 a2, .pointer (some zp)] 49)).heap[w2.heap.size]? = some (.cells #[.int .u64 0, .int .u64 a1, .pointer (some zp), .int .u64 0, .int .u64 a2, .pointer (some zp)] 49 (0, 0))) := heap_alloc_new _ _
      have b28 : Hid (Below w2.heap.size w2 (w2.alloc (.cells #[.int .u64 0, .int .u64 a1, .pointer (some zp), .int .u64 0, .int .u64 a2, .pointer (some zp)] 49))) := (Below.refl _ _).alloc (Nat.le_refl _) _
      have hs8 : Hid ((w2.alloc (.cells #[.int .u64 0, .int .u64 a1, .pointer (some zp), .int .u64 0, .int .u64 a2, .pointer (some zp)] 49)).heap.size = w2.heap.size + 1) := by simp [Hid]
      generalize (w2.alloc (.cells #[.int .u64 0, .int .u64 a1, .pointer (some zp), .int .u64 0, .int .u64 a2, .pointer (some zp)] 49)) = W8 at *
      have K6 : Hid (∀ W, Below W8.heap.size W8 W → six W w2.heap.size 0 zp a1 a2) := by
        intro W hW
        have h8 : W.heap[w2.heap.size]? = some (.cells #[.int .u64 0, .int .u64 a1, .pointer (some zp), .int .u64 0, .int .u64 a2, .pointer (some zp)] 49 (0, 0)) := (hW.block _ (by rw [unhide hs8]; omega)).trans (unhide h8n)
        have q : ∀ j, W.cell? ⟨w2.heap.size, j, none⟩ = #[Value.int .u64 0, .int .u64 a1, .pointer (some zp), .int .u64 0, .int .u64 a2, .pointer (some zp)][j]? := fun j => cell_of_row _ _ _ _ _ _ h8
        exact ⟨q 0, q 1, q 2, q 3, q 4, q 5⟩
      have k6 := unhide K6 W8 (Below.refl _ _)
      unfold six at k6
      have nn : ∀ W, Below W8.heap.size W8 W → ¬ W.heap.size = w2.heap.size := fun W h => by
        have h1 := h.size
        have h2 := unhide hs8
        omega
      have n8 := nn W8 (Below.refl _ _)
      have NN := hide nn
      clear nn
      go_cut [13] (fun v13 w' => ∃ A, v13 = .pointer (some ⟨A, 0, none⟩) ∧ Hid (Below W8.heap.size W8 w' ∧ W8.heap.size ≤ A ∧ Row8 w' A d0 d1 d2 d3 e0 e1 e2 e3))
      case first =>
        go_region_held3 (fun w' => w'.cell? ⟨w2.heap.size, 0, none⟩ = some (.int .u64 0) ∧ w'.cell? ⟨w2.heap.size, 1, none⟩ = some (.int .u64 a1) ∧ w'.cell? ⟨w2.heap.size, 2, none⟩ = some (.pointer (some zp)) ∧ w'.cell? ⟨w2.heap.size, 3, none⟩ = some (.int .u64 0) ∧ w'.cell? ⟨w2.heap.size, 4, none⟩ = some (.int .u64 a2) ∧ w'.cell? ⟨w2.heap.size, 5, none⟩ = some (.pointer (some zp)))
          (go_keep) (first
            | (go_at_call 42; refine Calls.mono (unhide K42 _ ?_) ?_; (first | exact (unhide HZ8).drew | exact (unhide HZ8).drew.alloc _); rintro e w8 ⟨rfl, HG8⟩; have HB8 : Hid (Below W8.heap.size W8 w8) := (by first | exact (Below.refl _ _).drew.trans HG8 | exact ((Below.refl _ _).drew.alloc (Nat.le_refl _) _).trans (HG8.mono (by simp))); have hc8 := unhide K6 w8 (unhide HB8); unfold six at hc8; have n9 := unhide NN w8 (unhide HB8); (try (have HA8 : Hid (Za w8 W8.heap.size) := ((Za.new W8.drew).below HG8 (by simp)); have hA8 := (unhide HA8).cells; unfold Zc at hA8)); clear HG8)
            | (go_at_call 43; refine Calls.mono (unhide K43 _ ?_) ?_; (first | exact (unhide HZ8).below (unhide HB8) | exact ((unhide HZ8).below (unhide HB8)).alloc _); rintro e w9 ⟨rfl, HG9⟩; have HB9 : Hid (Below W8.heap.size W8 w9) := (by first | exact (unhide HB8).trans (HG9.mono (unhide HB8).size) | exact ((unhide HB8).alloc (unhide HB8).size _).trans (HG9.mono (by have := (unhide HB8).size; simp; omega))); have hc9 := unhide K6 w9 (unhide HB9); unfold six at hc9; (try (first | (have HA9 : Hid (Za w9 w8.heap.size) := ((Za.new w8).below HG9 (by simp)); have hA9 := (unhide HA9).cells; unfold Zc at hA9) | (have HA9 : Hid (Za w9 W8.heap.size) := ((unhide HA8).below HG9 (by have := lt_of_za (unhide HA8); omega)); have hA9 := (unhide HA9).cells; unfold Zc at hA9))); clear HG9))
        · go_wp2_with fail
          go_meet
          case rel => exact ⟨w9.heap.size, rfl, (unhide HB9).alloc (unhide HB9).size _, (unhide HB9).size, heap_alloc_new _ _⟩
        · go_wp2_with fail
          go_meet
          case rel => exact ⟨w8.heap.size, rfl, below_put8 (unhide HB8).size (unhide HB9) _ _ _ _ _ _ _ _, (unhide HB8).size, (unhide HA9).put _ _ _ _ _ _ _ _⟩
        · go_wp2_with fail
          go_meet
          case rel => exact ⟨W8.heap.size, rfl, below_put8 (Nat.le_refl _) (unhide HB9) _ _ _ _ _ _ _ _, Nat.le_refl _, (unhide HA9).put _ _ _ _ _ _ _ _⟩
      case rest =>
        rename World => wa
        obtain ⟨A, rfl, HC⟩ := hcut
        have hA8 := unhide hs8
        have B1c : Hid (Below w1.heap.size w1 wa) := (((unhide BL2).1.trans ((unhide b28).mono (unhide BL2).1.size)).trans ((unhide HC).1.mono (by have h1 := (unhide BL2).2.2; omega)))
        have OC : Hid (Out wa O v1 (L0 ++ ls)) := (unhide O1).below (unhide B1c)
        have RBc : Hid (wa.heap[w.heap.size]? = some (.cells #[.int .u8 0, .int .u8 0, .int .u8 0, .int .u8 0] 35 (0, 0))) := ((unhide B1c).block _ hs1').trans (unhide RB1)
        have LBc : Hid (wa.heap[w1.heap.size]? = some (.cells #[.int .u8 b0, .int .u8 b1, .int .u8 b2, .int .u8 b3] 35 (0, 0))) := by
          have h1 := (unhide BL2).2.2
          exact ((unhide HC).1.block _ (by omega)).trans (((unhide b28).block _ (by omega)).trans (unhide BL2).2.1)
        have HBL : w1.heap.size + 2 ≤ A := by
          have h1 := (unhide BL2).2.2
          have h2 := (unhide HC).2.1
          omega
        have RA : Hid (Row8 wa A d0 d1 d2 d3 e0 e1 e2 e3) := (unhide HC).2.2
        have hAlt : A < wa.heap.size := by
          have h := unhide RA
          rcases Nat.lt_or_ge A wa.heap.size with h' | h'
          · exact h'
          · unfold Row8 at h; rw [Array.getElem?_eq_none h'] at h; cases h
        have k8 : (wa.cell? ⟨A, 0, none⟩ = some (.int .u8 d0) ∧ wa.cell? ⟨A, 1, none⟩ = some (.int .u8 d1) ∧ wa.cell? ⟨A, 2, none⟩ = some (.int .u8 d2) ∧ wa.cell? ⟨A, 3, none⟩ = some (.int .u8 d3) ∧ wa.cell? ⟨A, 4, none⟩ = some (.int .u8 e0) ∧ wa.cell? ⟨A, 5, none⟩ = some (.int .u8 e1) ∧ wa.cell? ⟨A, 6, none⟩ = some (.int .u8 e2) ∧ wa.cell? ⟨A, 7, none⟩ = some (.int .u8 e3)) ∧ True := by
          have q : ∀ j, wa.cell? ⟨A, j, none⟩ = (#[.int .u8 d0, .int .u8 d1, .int .u8 d2, .int .u8 d3, .int .u8 e0, .int .u8 e1, .int .u8 e2, .int .u8 e3] : Array Value)[j]? := fun j => cell_of_row _ _ _ _ _ _ (unhide RA)
          exact ⟨⟨q 0, q 1, q 2, q 3, q 4, q 5, q 6, q 7⟩, trivial⟩
        replace k8 := k8.1
        have hOO : wa.cell? ⟨O, 0, none⟩ = some v1 := (unhide OC).1
        have hOf : wa.frozen? ⟨O, 0, none⟩ = false := (unhide OC).2.1
        have hOlt : O < wa.heap.size := by omega
        have n1 : ¬ O = A := by omega
        have n2 : ¬ A = O := by omega
        have n3 : ¬ O = wa.heap.size := by omega
        have n4 : ¬ A = wa.heap.size := by omega
        have n5 : ¬ wa.heap.size = O := by omega
        have n6 : ¬ wa.heap.size = A := by omega
        have hownc : wa.ownsRow (O + 1) 37 8 v1 (L0 ++ ls).length (flat8 (L0 ++ ls)) := (unhide OC).2.2.1
        have HOWN := hide hownc
        have vlt : Hid (∀ g, v1.ownBlock = some g → O + 1 ≤ g ∧ g < w1.heap.size) := (unhide O1).own
        have vA : v1.ownBlock ≠ some A := fun e => by have := (unhide vlt A e).2; omega
        have vO : v1.ownBlock ≠ some O := fun e => by have := (unhide vlt O e).1; omega
        have hlen2 : Hid ((L0 ++ ls).length + 1 ≤ 1048576) := by have h := unhide HL; simp at h ⊢; show _ ≤ _; omega
        have VA := hide vA
        have VO := hide vO
        have e8 : Hid (enc8 x = [.int .u8 d0, .int .u8 d1, .int .u8 d2, .int .u8 d3, .int .u8 e0, .int .u8 e1, .int .u8 e2, .int .u8 e3]) := by show arr4 x.1 ++ arr4 x.2 = _; rw [unhide HEd, unhide HEe]; rfl
        obtain ⟨i37, hi, hz0, hz1, hz2⟩ := info_parts info37
        clear hownc vA vO hA8 n8 k6 K6 HZ8 h8n b28 hs8 BL2 NN HC
        go_upto_region 10 with fail
        go_cut [] (fun w' => ∃ v2, Hid (Out w' O v2 (L0 ++ ls ++ [x]) ∧ Fr wa.heap.size O v1 wa w' v2))
        case first =>
          go_region_law
            ((refine step_append_lies _ (by rfl) _ _ _ (by rfl) (O + 1) 37 i37 _ 8 8 Tryd.underlying22 hi hz0 hz1 hz2 rfl (by omega) v1 (L0 ++ ls).length (flat8 (L0 ++ ls)) (by rfl) (((unhide HOWN).alloc _).drew)
                ⟨wa.heap.size, 0, none⟩ 1 1 [.int .u8 d0, .int .u8 d1, .int .u8 d2, .int .u8 d3, .int .u8 e0, .int .u8 e1, .int .u8 e2, .int .u8 e3] (by rfl) (by rfl) (World.news_of_block (cs := #[.int .u8 d0, .int .u8 d1, .int .u8 d2, .int .u8 d3, .int .u8 e0, .int .u8 e1, .int .u8 e2, .int .u8 e3]) (t := 37) (fr := (0, 0)) (heap_alloc_new wa _)) (by simp [Value.oneCell'])
                (by omega) (by have := unhide hlen2; unfold maxLen; omega) (by have := unhide hlen2; omega) (by simp; omega) (wa.heap.size + 1) (by simp) ?_; intro gg cap w10 hown1 hgrow hat hlt; have hO10 := out_cell (unhide OC) hgrow))
          · go_wp2_with fail
            go_meet
            case rel =>
              have e : L0.length + ls.length = (L0 ++ ls).length := by simp
              rw [e]
              exact ⟨_, out_append (unhide OC) (by rw [unhide e8]; first | exact hown1 | simpa using hown1) hgrow hat⟩
          · go_wp2_with fail
            go_meet
            case rel =>
              have e : L0.length + ls.length = (L0 ++ ls).length := by simp
              rw [e]
              exact ⟨_, out_append (unhide OC) (by rw [unhide e8]; first | exact hown1 | simpa using hown1) hgrow hat⟩
          · go_wp2_with fail
            go_meet
            case rel =>
              have e : L0.length + ls.length = (L0 ++ ls).length := by simp
              rw [e]
              exact ⟨_, out_append (unhide OC) (by rw [unhide e8]; first | exact hown1 | simpa using hown1) hgrow hat⟩
        case rest =>
          rename World => wd
          obtain ⟨v2, HD⟩ := hcut
          have nb : ∀ X, X < wa.heap.size → X ≠ O → v1.ownBlock ≠ some X → wd.heap[X]? = wa.heap[X]? ∧ v2.ownBlock ≠ some X := fun X h1 h2 h3 => by
            refine ⟨(unhide HD).2.block X h1 h2 h3, fun e => ?_⟩
            rcases (unhide HD).2.own X e with e' | e'
            · exact h3 e'
            · omega
          have hw1a := (unhide B1c).size
          have nR := nb w.heap.size (by omega) (by omega) (unhide V1R)
          have nL := nb w1.heap.size (by omega) (by omega) (fun e => by have := (unhide vlt _ e).2; omega)
          have nA := nb A hAlt (by omega) (unhide VA)
          have hda := (unhide HD).2.size
          have Bwa : Below k w wa := (unhide B1).trans ((unhide B1c).mono (by omega))
          have Bd : Hid (Below k w wd) := Bwa.trans ((unhide HD).2.toBelow (by omega) (by omega) (fun g hg => by have := (unhide vlt g hg).1; omega))
          have Kr : Hid (Calls Tryd.prog 27 #[.pointer pr, .pointer (some ⟨O, 0, none⟩)] wd fun e w' => e = .returned (.tuple #[.int .i64 (rs.length : Nat), .agg #[.int .u8 c0, .int .u8 c1, .int .u8 c2, .int .u8 c3], .bool true]) ∧ Wk wd O v2 (L0 ++ ls ++ [x]) rs w') := unhide IHr wd v2 (unhide Bd) (unhide HD).1
          have FD : Hid (Fr w.heap.size O v w wd v2) := (((unhide F1).below ((unhide B1c).mono (by omega))).trans (unhide HD).2 (by omega))
          have hR := nR.1.trans (unhide RBc)
          have hL := nL.1.trans (unhide LBc)
          have hA : Row8 wd A d0 d1 d2 d3 e0 e1 e2 e3 := nA.1.trans (unhide RA)
          have CH : Hid (∀ w3 v3, Fr wd.heap.size O v2 wd w3 v3 → w3.heap[w.heap.size]? = some (.cells #[.int .u8 0, .int .u8 0, .int .u8 0, .int .u8 0] 35 (0, 0)) ∧ w3.heap[w1.heap.size]? = some (.cells #[.int .u8 b0, .int .u8 b1, .int .u8 b2, .int .u8 b3] 35 (0, 0)) ∧ Row8 w3 A d0 d1 d2 d3 e0 e1 e2 e3 ∧ Below k w w3 ∧ Fr w.heap.size O v w w3 v3 ∧ wa.heap.size ≤ w3.heap.size) := fun w3 v3 h3 => by
            have hsd := h3.size
            have hk3 : ∀ g, v2.ownBlock = some g → k ≤ g := fun g hg => by
              rcases (unhide HD).2.own g hg with e | e
              · have := (unhide vlt g e).1; omega
              · omega
            exact ⟨(h3.block _ (by omega) (by omega) nR.2).trans hR, (h3.block _ (by omega) (by omega) nL.2).trans hL, (h3.block _ (by omega) (by omega) nA.2).trans hA, (unhide Bd).trans (h3.toBelow (by omega) (by omega) hk3), (unhide FD).trans h3 (by omega), by omega⟩
          have hwA : Hid (w.heap.size < w1.heap.size ∧ w1.heap.size + 2 ≤ A ∧ A < wa.heap.size ∧ O < w.heap.size) := ⟨hs1', HBL, hAlt, by omega⟩
          clear hOO hOf k8 n1 n2 n3 n4 n5 n6 hOlt hi hz0 hz1 hz2 e8 HOWN nb hw1a nR nL nA hda Bwa hR hL hA
          clear HD FD Bd OC B1c RBc LBc RA VA VO vlt hlen2 IHl IHr O1 RB1 V1R F1 B1 HO K41 K42 K43 HTl HTr BL0 BL0' HEd
          clear K39 K40 hs1' HBL hAlt hsz hkw
          go_upto_region 14 with (go_at_call 27; refine Calls.mono (unhide Kr) ?_; rintro e w3 ⟨rfl, HW3⟩; replace HW3 := hide HW3)
          obtain ⟨v3, o3, f3⟩ := unhide HW3
          obtain ⟨hR, hL, hA, b3', f3', hw3⟩ := unhide CH w3 v3 f3
          obtain ⟨j1, j2, j3, j4⟩ := unhide hwA
          have a4 : w3.cell? ⟨A, 4, none⟩ = some (.int .u8 e0) := cell_of_row _ _ _ _ _ _ hA
          have a5 : w3.cell? ⟨A, 5, none⟩ = some (.int .u8 e1) := cell_of_row _ _ _ _ _ _ hA
          have a6 : w3.cell? ⟨A, 6, none⟩ = some (.int .u8 e2) := cell_of_row _ _ _ _ _ _ hA
          have a7 : w3.cell? ⟨A, 7, none⟩ = some (.int .u8 e3) := cell_of_row _ _ _ _ _ _ hA
          have hA3 : A < w3.heap.size := by omega
          have T14 : Hid (∀ W, W = (w3.alloc (.cells #[.int .u8 c0, .int .u8 c1, .int .u8 c2, .int .u8 c3] 35)).alloc (.cells #[.int .u8 e0, .int .u8 e1, .int .u8 e2, .int .u8 e3] 35) → St14 w W k O v v3 (L0 ++ (ls ++ x :: rs)) w1.heap.size w3.heap.size #[.int .u8 b0, .int .u8 b1, .int .u8 b2, .int .u8 b3] #[.int .u8 c0, .int .u8 c1, .int .u8 c2, .int .u8 c3] #[.int .u8 e0, .int .u8 e1, .int .u8 e2, .int .u8 e3]) := by
            rintro W rfl
            have hb : Below w3.heap.size w3 ((w3.alloc (.cells #[.int .u8 c0, .int .u8 c1, .int .u8 c2, .int .u8 c3] 35)).alloc (.cells #[.int .u8 e0, .int .u8 e1, .int .u8 e2, .int .u8 e3] 35)) := ((Below.refl _ _).alloc (Nat.le_refl _) _).alloc (by simp) _
            have o4 := o3.below hb
            rw [show L0 ++ ls ++ [x] ++ rs = L0 ++ (ls ++ x :: rs) by simp] at o4
            refine ⟨o4, f3'.below (hb.mono (by omega)), b3'.trans (hb.mono (by omega)), (hb.block _ (by omega)).trans hR, (hb.block _ (by omega)).trans hL, ?_, ?_, by omega, by omega, by simp⟩
            · exact (Below.heap_alloc _ _ _ (by simp)).trans (heap_alloc_new _ _)
            · have e : w3.heap.size + 1 = (w3.alloc (.cells #[.int .u8 c0, .int .u8 c1, .int .u8 c2, .int .u8 c3] 35)).heap.size := by simp
              rw [e]; exact heap_alloc_new _ _
          have o3' := o3
          clear HW3 o3 f3 hR hL hA b3' f3' hw3 j1 j2 j3 j4
          have TL := (unhide PLN)
          have V3 : Hid (v3.ownBlock ≠ some (w3.heap.size + 1)) := by
            intro e
            have := (o3'.own _ e).2
            omega
          clear o3'
          have hkw' : k ≤ w.heap.size := by have := (unhide hwA).2.2.2; omega
          have hOw : O < w.heap.size := (unhide hwA).2.2.2
          go_upto_region 15 with fail
          have S14 := hide (unhide T14 _ rfl)
          generalize ((w3.alloc (.cells #[.int .u8 c0, .int .u8 c1, .int .u8 c2, .int .u8 c3] 35)).alloc (.cells #[.int .u8 e0, .int .u8 e1, .int .u8 e2, .int .u8 e3] 35)) = W14 at *
          clear T14 a4 a5 a6 a7 hA3
          obtain ⟨g0, g1, g2, g3, eg⟩ := bytes4 (mx x.2 (mxL ls))
          obtain ⟨h0, h1, h2, h3, eh⟩ := bytes4 (mxL (ls ++ x :: rs))
          have K25l : Hid (∀ W, Calls Tryd.prog 25 #[.agg #[.int .u8 b0, .int .u8 b1, .int .u8 b2, .int .u8 b3], .agg #[.int .u8 e0, .int .u8 e1, .int .u8 e2, .int .u8 e3]] W fun e w' => e = .returned (.int .i64 (cmpI (rv ls) x.2)) ∧ Gr W w') := fun W => by
            have q := cmp4_any (rv ls) x.2 (rv_N ls als) (unhide HX).2 W
            rw [unhide HEb, unhide HEe] at q; exact q
          have HEg := hide eg
          have HEh := hide eh
          clear eg eh
          go_cut [70] (fun v70 w' => v70 = .bool (decide (x.2 < mxL ls)) ∧ Hid (Gr W14 w'))
          case first =>
            rcases TL with ⟨rfl, rfl⟩ | ⟨⟨PB0, rfl⟩, hne⟩
            · go_wp2_with fail
              go_meet
              case rel => exact ⟨congrArg Value.bool (decide_eq_false (by have := (unhide HX).2.1; simp only [mxL]; omega)).symm, Gr.refl _⟩
            · obtain ⟨⟨l0, l1, l2, l3⟩, lf⟩ := cells4 (unhide S14).2.2.2.2.1
              obtain ⟨⟨m0, m1, m2, m3⟩, mf⟩ := cells4 (unhide S14).2.2.2.2.2.2.1
              have er : rv ls = mxL ls := if_neg hne
              obtain ⟨r, hr⟩ : ∃ r, cmpI (rv ls) x.2 = r := ⟨_, rfl⟩
              rw [hr] at K25l
              have HRr := hide hr
              have HER2 := hide er
              clear hr er hne lf mf
              go_wp2_with (go_at_call 25; refine Calls.mono (unhide K25l _) ?_; rintro e w8 ⟨rfl, HG8⟩; replace HG8 := hide HG8)
              go_meet
              case rel => exact ⟨congrArg Value.bool (by rw [← unhide HRr, ← unhide HER2]; exact decide_eq_decide.2 cmpI_pos), unhide HG8⟩
          case rest =>
            rename World => we
            obtain ⟨rfl, HGe⟩ := hcut
            have S15 : Hid (St14 w we k O v v3 (L0 ++ (ls ++ x :: rs)) w1.heap.size w3.heap.size #[.int .u8 b0, .int .u8 b1, .int .u8 b2, .int .u8 b3] #[.int .u8 c0, .int .u8 c1, .int .u8 c2, .int .u8 c3] #[.int .u8 e0, .int .u8 e1, .int .u8 e2, .int .u8 e3]) := (unhide S14).below (unhide HGe).below hkw'
            clear S14 HGe
            generalize hbb : decide (x.2 < mxL ls) = bb
            have HBB := hide hbb
            clear hbb
            go_upto_if 70 with fail
            go_cut [] (fun w' => Hid (St14 w w' k O v v3 (L0 ++ (ls ++ x :: rs)) w1.heap.size w3.heap.size #[.int .u8 b0, .int .u8 b1, .int .u8 b2, .int .u8 b3] #[.int .u8 c0, .int .u8 c1, .int .u8 c2, .int .u8 c3] #[.int .u8 g0, .int .u8 g1, .int .u8 g2, .int .u8 g3]))
            case first =>
              cases bb with
              | true =>
                obtain ⟨⟨l0, l1, l2, l3⟩, lf⟩ := cells4 (unhide S15).2.2.2.2.1
                obtain ⟨⟨m0, m1, m2, m3⟩, mf⟩ := cells4 (unhide S15).2.2.2.2.2.2.1
                have nq : ¬ w3.heap.size + 1 = w1.heap.size := by have := (unhide S15).2.2.2.2.2.2.2.2.1; omega
                clear lf
                go_wp2_with fail
                go_meet
                case rel =>
                  have hlt := of_decide_eq_true (unhide HBB)
                  have hne : ls ≠ [] := by rintro rfl; have := (unhide HX).2.1; simp only [mxL] at hlt; omega
                  have t1 : [Value.int .u8 g0, .int .u8 g1, .int .u8 g2, .int .u8 g3] = [.int .u8 b0, .int .u8 b1, .int .u8 b2, .int .u8 b3] := by
                    rw [← unhide HEg, ← unhide HEb]; unfold mx rv; rw [if_pos hlt, if_neg hne]
                  have t2 : (#[.int .u8 g0, .int .u8 g1, .int .u8 g2, .int .u8 g3] : Array Value) = #[.int .u8 b0, .int .u8 b1, .int .u8 b2, .int .u8 b3] := congrArg List.toArray t1
                  rw [t2]
                  exact (unhide S15).put hkw' hOw _ _ _ _ (unhide V3)
              | false =>
                go_wp2_with fail
                go_meet
                case rel =>
                  have hlt := of_decide_eq_false (unhide HBB)
                  have t1 : [Value.int .u8 g0, .int .u8 g1, .int .u8 g2, .int .u8 g3] = [.int .u8 e0, .int .u8 e1, .int .u8 e2, .int .u8 e3] := by
                    rw [← unhide HEg, ← unhide HEe]; unfold mx; rw [if_neg hlt]
                  have t2 : (#[.int .u8 g0, .int .u8 g1, .int .u8 g2, .int .u8 g3] : Array Value) = #[.int .u8 e0, .int .u8 e1, .int .u8 e2, .int .u8 e3] := congrArg List.toArray t1
                  rw [t2]
                  exact unhide S15
            case rest =>
              rename World => wf
              have S16 := hcut
              clear hcut S15 HBB
              have hgN : isN (mx x.2 (mxL ls)) := by
                obtain ⟨q1, q2⟩ := (unhide HX).2
                rcases unhide PLN with ⟨-, h⟩ | ⟨-, h⟩
                · rw [h]; unfold mx; rw [if_neg (by simp only [mxL]; omega)]; exact ⟨q1, q2⟩
                · obtain ⟨p1, p2⟩ := mxL_N ls als h
                  unfold mx isN; split <;> omega
              have K25r : Hid (∀ W, Calls Tryd.prog 25 #[.agg #[.int .u8 c0, .int .u8 c1, .int .u8 c2, .int .u8 c3], .agg #[.int .u8 g0, .int .u8 g1, .int .u8 g2, .int .u8 g3]] W fun e w' => e = .returned (.int .i64 (cmpI (rv rs) (mx x.2 (mxL ls)))) ∧ Gr W w') := fun W => by
                have q := cmp4_any (rv rs) (mx x.2 (mxL ls)) (rv_N rs ars) hgN W
                rw [unhide HEc, unhide HEg] at q; exact q
              have HGN := hide hgN
              clear hgN
              go_upto_region 17 with fail
              go_cut [79] (fun v79 w' => v79 = .bool (decide (mx x.2 (mxL ls) < mxL rs)) ∧ Hid (Gr wf w'))
              case first =>
                rcases unhide PRN with ⟨e1, e2⟩ | ⟨⟨PB1, e1⟩, hne⟩
                · subst e1
                  have HE2 := hide e2
                  clear e2
                  go_wp2_with fail
                  go_meet
                  case rel => exact ⟨congrArg Value.bool (decide_eq_false (by have := (unhide HGN).1; rw [unhide HE2]; simp only [mxL]; omega)).symm, Gr.refl _⟩
                · subst e1
                  obtain ⟨⟨l0, l1, l2, l3⟩, lf⟩ := cells4 (unhide S16).2.2.2.2.2.1
                  obtain ⟨⟨m0, m1, m2, m3⟩, mf⟩ := cells4 (unhide S16).2.2.2.2.2.2.1
                  have er : rv rs = mxL rs := if_neg hne
                  obtain ⟨r, hr⟩ : ∃ r, cmpI (rv rs) (mx x.2 (mxL ls)) = r := ⟨_, rfl⟩
                  rw [hr] at K25r
                  have HRr := hide hr
                  have HER2 := hide er
                  clear hr er hne lf mf
                  go_wp2_with (go_at_call 25; refine Calls.mono (unhide K25r _) ?_; rintro e w8 ⟨rfl, HG8⟩; replace HG8 := hide HG8)
                  go_meet
                  case rel => exact ⟨congrArg Value.bool (by rw [← unhide HRr, ← unhide HER2]; exact decide_eq_decide.2 cmpI_pos), unhide HG8⟩
              case rest =>
                rename World => wg
                obtain ⟨rfl, HGe⟩ := hcut
                have S17 : Hid (St14 w wg k O v v3 (L0 ++ (ls ++ x :: rs)) w1.heap.size w3.heap.size #[.int .u8 b0, .int .u8 b1, .int .u8 b2, .int .u8 b3] #[.int .u8 c0, .int .u8 c1, .int .u8 c2, .int .u8 c3] #[.int .u8 g0, .int .u8 g1, .int .u8 g2, .int .u8 g3]) := (unhide S16).below (unhide HGe).below hkw'
                clear S16 HGe
                generalize hbb : decide (mx x.2 (mxL ls) < mxL rs) = bb
                have HBB := hide hbb
                clear hbb
                go_upto_if 79 with fail
                go_cut [] (fun w' => Hid (St14 w w' k O v v3 (L0 ++ (ls ++ x :: rs)) w1.heap.size w3.heap.size #[.int .u8 b0, .int .u8 b1, .int .u8 b2, .int .u8 b3] #[.int .u8 c0, .int .u8 c1, .int .u8 c2, .int .u8 c3] #[.int .u8 h0, .int .u8 h1, .int .u8 h2, .int .u8 h3]))
                case first =>
                  cases bb with
                  | true =>
                    obtain ⟨⟨l0, l1, l2, l3⟩, lf⟩ := cells4 (unhide S17).2.2.2.2.2.1
                    obtain ⟨⟨m0, m1, m2, m3⟩, mf⟩ := cells4 (unhide S17).2.2.2.2.2.2.1
                    clear lf
                    go_wp2_with fail
                    go_meet
                    case rel =>
                      have hlt := of_decide_eq_true (unhide HBB)
                      have hne : rs ≠ [] := by rintro rfl; have := (unhide HGN).1; simp only [mxL] at hlt; omega
                      have t1 : [Value.int .u8 h0, .int .u8 h1, .int .u8 h2, .int .u8 h3] = [.int .u8 c0, .int .u8 c1, .int .u8 c2, .int .u8 c3] := by
                        rw [← unhide HEh, ← unhide HEc, unhide HER]
                        generalize mx x.2 (mxL ls) = q at *
                        unfold mx rv; rw [if_pos hlt, if_neg hne]
                      have t2 : (#[.int .u8 h0, .int .u8 h1, .int .u8 h2, .int .u8 h3] : Array Value) = #[.int .u8 c0, .int .u8 c1, .int .u8 c2, .int .u8 c3] := congrArg List.toArray t1
                      rw [t2]
                      exact (unhide S17).put hkw' hOw _ _ _ _ (unhide V3)
                  | false =>
                    go_wp2_with fail
                    go_meet
                    case rel =>
                      have hlt := of_decide_eq_false (unhide HBB)
                      have t1 : [Value.int .u8 h0, .int .u8 h1, .int .u8 h2, .int .u8 h3] = [.int .u8 g0, .int .u8 g1, .int .u8 g2, .int .u8 g3] := by
                        rw [← unhide HEh, ← unhide HEg, unhide HER]
                        generalize mx x.2 (mxL ls) = q at *
                        unfold mx; rw [if_neg hlt]
                      have t2 : (#[.int .u8 h0, .int .u8 h1, .int .u8 h2, .int .u8 h3] : Array Value) = #[.int .u8 g0, .int .u8 g1, .int .u8 g2, .int .u8 g3] := congrArg List.toArray t1
                      rw [t2]
                      exact unhide S17
                case rest =>
                  rename World => wh
                  have S18 := hcut
                  clear hcut S17 HBB K25l K25r Kr CH hwA
                  have K45 : Hid (∀ W, Below k w W → Calls Tryd.prog 45 #[.pointer (some ⟨B, 0, none⟩)] W fun e w' => e = .returned (.agg #[.int .u8 h0, .int .u8 h1, .int .u8 h2, .int .u8 h3]) ∧ Below W.heap.size W w') := fun W h => by
                    have q := reach4_any W zp B x pl pr _ _ (by have := h.size; omega) (unhide eN W h) (mxL_N _ ha (by simp)) ((unhide HZ).belowK hk2 h)
                    rw [unhide HEh] at q; exact q
                  have bl := unhide HL
                  rw [hlen] at bl
                  have w1' : IntKind.i64.wrap ((ls.length : Int) + (rs.length : Int)) = (ls.length : Int) + (rs.length : Int) := by rw [IntKind.wrap_i64]; omega
                  have w2' : IntKind.i64.wrap ((ls.length : Int) + (rs.length : Int) + 1) = (ls.length : Int) + (rs.length : Int) + 1 := by rw [IntKind.wrap_i64]; omega
                  have w3' : IntKind.i64.wrap ((ls.length : Int) + 1) = (ls.length : Int) + 1 := by rw [IntKind.wrap_i64]; omega
                  have w4' : IntKind.i64.wrap ((rs.length : Int) + 1) = (rs.length : Int) + 1 := by rw [IntKind.wrap_i64]; omega
                  have w5' : IntKind.i64.wrap (3 * ((ls.length : Int) + 1)) = 3 * ((ls.length : Int) + 1) := by rw [IntKind.wrap_i64]; omega
                  have w6' : IntKind.i64.wrap (3 * ((rs.length : Int) + 1)) = 3 * ((rs.length : Int) + 1) := by rw [IntKind.wrap_i64]; omega
                  have pb : (rs.length : Int) + 1 ≤ 3 * ((ls.length : Int) + 1) := by have := unhide PB; omega
                  have pc : (ls.length : Int) + 1 ≤ 3 * ((rs.length : Int) + 1) := by have := unhide PC; omega
                  have HLEN := hide hlen
                  have HA' := hide ha
                  have HB := hide hB
                  clear bl hlen ha hB als ars
                  have Bh : Hid (Below k w wh) := (unhide S18).2.2.1
                  obtain ⟨m0, m1, m2, m3⟩ := (cells4 (unhide S18).2.2.2.2.2.2.1).1
                  have M4 : Hid (∀ W, Below wh.heap.size wh W → W.cell? ⟨w3.heap.size + 1, 0, none⟩ = some (.int .u8 h0) ∧ W.cell? ⟨w3.heap.size + 1, 1, none⟩ = some (.int .u8 h1) ∧ W.cell? ⟨w3.heap.size + 1, 2, none⟩ = some (.int .u8 h2) ∧ W.cell? ⟨w3.heap.size + 1, 3, none⟩ = some (.int .u8 h3)) := fun W hW => (cells4 ((unhide S18).below hW hkw').2.2.2.2.2.2.1).1
                  have q35 := n35 h0 h1 h2 h3
                  go_wp2_with fail
                  go_region_held3 (fun w' => w'.cell? ⟨w3.heap.size + 1, 0, none⟩ = some (.int .u8 h0) ∧ w'.cell? ⟨w3.heap.size + 1, 1, none⟩ = some (.int .u8 h1) ∧ w'.cell? ⟨w3.heap.size + 1, 2, none⟩ = some (.int .u8 h2) ∧ w'.cell? ⟨w3.heap.size + 1, 3, none⟩ = some (.int .u8 h3))
                    (go_keep) (first
                      | (go_at_call 44; refine Calls.mono (unhide K44 _ ?_) ?_; exact (unhide Bh).drew; rintro e w8 ⟨rfl, rfl⟩)
                      | (go_at_call 45; refine Calls.mono (unhide K45 _ ?_) ?_; exact (unhide Bh).drew; rintro e w9 ⟨rfl, HG9⟩; have HB9 := hide ((Below.refl _ wh).drew.trans HG9); have hc9 := unhide M4 w9 (unhide HB9); clear HG9))
                  have S20 : Hid (St14 w w9 k O v v3 (L0 ++ (ls ++ x :: rs)) w1.heap.size w3.heap.size #[.int .u8 b0, .int .u8 b1, .int .u8 b2, .int .u8 b3] #[.int .u8 c0, .int .u8 c1, .int .u8 c2, .int .u8 c3] #[.int .u8 h0, .int .u8 h1, .int .u8 h2, .int .u8 h3]) := (unhide S18).below (unhide HB9) hkw'
                  obtain ⟨⟨r0, r1, r2, r3⟩, rf⟩ := cells4 (unhide S20).2.2.2.1
                  have nq : ¬ w3.heap.size + 1 = w.heap.size := by have h1 := (unhide S20).2.2.2.2.2.2.2.1; have h2 := (unhide S20).2.2.2.2.2.2.2.2.1; omega
                  have nq' : ¬ w.heap.size = w3.heap.size + 1 := fun e => nq e.symm
                  clear m0 m1 m2 m3
                  have ER : Hid ((arr4 (rv (ls ++ x :: rs))).toArray = #[.int .u8 h0, .int .u8 h1, .int .u8 h2, .int .u8 h3]) := by
                    show (arr4 (rv (ls ++ x :: rs))).toArray = _
                    rw [show rv (ls ++ x :: rs) = mxL (ls ++ x :: rs) from if_neg (by simp), unhide HEh]
                  go_wp2_with fail
                  go_region
                  go_wp2_with fail
                  have e1 : (((ls ++ x :: rs).length : Nat) : Int) = (ls.length : Int) + (rs.length : Int) + 1 := by rw [unhide HLEN]; omega
                  exact bodyPost_ret (v := .tuple #[.int .i64 ((ls.length : Int) + (rs.length : Int) + 1), .agg #[.int .u8 h0, .int .u8 h1, .int .u8 h2, .int .u8 h3], .bool true]) (by simp [results, Tryd.results27, go_sem, r0, r1, r2, r3]) rfl ⟨by rw [unhide ER, e1], ((unhide S20).drew hkw').final hOw _ _ _ _⟩
end Go.Proofs.Qxb6609544aDoor
