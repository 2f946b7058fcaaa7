import Derived.Test.Qxb6609544aDoorNs
namespace Go.Proofs.Qxb6609544aDoor
open Go.RowKit

theorem Tree.setCell {W : World} {zp : Addr} {k A : Nat} {q : Option Addr} (hA : W.cell? ⟨A, 0, none⟩ = some (.pointer q)) (v : Value) : ∀ {f : Nat} {p : Option Addr} {l : List (Int × Int)}, Tree W zp k f p l → Tree (W.setCell ⟨A, 0, none⟩ v) zp k f p l
  | 0, _, _, h => h
  | f + 1, p, l, h => by
    rcases h with h | ⟨B, x, pl, pr, ls, rs, h1, h2, h3, h4, h5, h6, h7, h8⟩
    · exact Or.inl h
    · refine Or.inr ⟨B, x, pl, pr, ls, rs, h1, h2, h3, ?_, h5, h6, Tree.setCell hA v h7, Tree.setCell hA v h8⟩
      have hne : A ≠ B := fun e => by
        subst e
        have := h4.1
        rw [hA] at this
        simp at this
      unfold Node at *
      have e : ∀ j, (W.setCell ⟨A, 0, none⟩ v).cell? ⟨B, j, none⟩ = W.cell? ⟨B, j, none⟩ := fun j => World.cell?_setCell_other _ _ _ _ (fun e => hne (congrArg Addr.block e))
      simp only [e]
      exact h4

theorem newSet_post {w W0 w1 w2 w3 w4 : World} {zp : Addr} {g N k : Nat} {D D' M : Nat → Int × Int} {p : Option Addr} (hW0 : W0 = w.alloc (.cells #[.pointer none] 33)) (hg : W0.heap.size ≤ g) (b1 : RowKit.Below W0.heap.size W0 w1) (b2 : RowKit.Below g w1 w2) (c : Cpt w2 zp g N D' k M w3) (bl : Blt w3 zp N ((List.range k).map M) p w4) (hD : allN N D) (hi : ∀ i, i < N → ∃ j, j < N ∧ D' j = D i) (ho : ∀ j, j < N → ∃ i, i < N ∧ D' j = D i) :
    w4.heap[w.heap.size]? = some (.cells #[.pointer none] 33 (0, 0)) ∧ SetOK w zp N D p ((List.range k).map M) (w4.setCell ⟨w.heap.size, 0, none⟩ (.pointer p)) := by
  have hs0 : W0.heap.size = w.heap.size + 1 := by rw [hW0]; simp
  have h0 : W0.heap[w.heap.size]? = some (.cells #[.pointer none] 33 (0, 0)) := by rw [hW0]; exact heap_alloc_new _ _
  obtain ⟨c1, c2, c3, c4, c5, c6, c7⟩ := c
  obtain ⟨t, b4⟩ := bl
  have s1 := b1.size
  have s2 := b2.size
  have s3 := c1.size
  have s4 := b4.size
  have hb04 : RowKit.Below W0.heap.size W0 w4 := ((b1.trans (b2.mono hg)).trans (c1.mono hg)).trans (b4.mono (by omega))
  have hb0 : RowKit.Below w.heap.size w W0 := by rw [hW0]; exact (RowKit.Below.refl _ _).alloc (Nat.le_refl _) _
  have h4 : w4.heap[w.heap.size]? = some (.cells #[.pointer none] 33 (0, 0)) := (hb04.block _ (by omega)).trans h0
  refine ⟨h4, ?_, (hb0.trans (hb04.mono (by omega))).setCell (Nat.le_refl _) _, ?_, ?_, by simpa using c3, fun i hi' => ?_, fun j hj => ?_⟩
  · have := t.setCell (A := w.heap.size) (q := none) (cell_of_row _ _ _ _ _ _ h4) (.pointer p)
    rw [size_setCell]; exact this
  · intro x hx
    obtain ⟨j, hj, rfl⟩ := List.mem_map.1 hx
    obtain ⟨i, hi', e⟩ := c6 j (by simpa using hj)
    obtain ⟨i2, hi2, e2⟩ := ho i hi'
    rw [e, e2]; exact hD i2 hi2
  · intro i hi'
    have hi2 : i + 1 < k := by simpa using hi'
    rw [LD_range k M i (by omega), LD_range k M (i + 1) hi2]
    exact c4 i hi2
  · obtain ⟨j, hj, e⟩ := hi i hi'
    obtain ⟨j2, hj2, e2⟩ := c5 j hj
    exact ⟨j2, by simpa using hj2, by rw [LD_range k M j2 hj2, e2, e]⟩
  · have hj' : j < k := by simpa using hj
    obtain ⟨i, hi', e⟩ := c6 j hj'
    obtain ⟨i2, hi2, e2⟩ := ho i hi'
    exact ⟨i2, hi2, by rw [LD_range k M j hj', e, e2]⟩

theorem sort_none (oa : Option Addr) (cap : Nat) (w : World) : Calls Tryd.prog 36 #[.slice oa 0 cap, .func (.func 32) #[] #[]] w fun e w' => e = .returned (.tuple #[]) ∧ w' = w := AnyF.slices_SortFunc_none Tryd.sortE oa cap _ w
set_option maxHeartbeats 2000000 in
set_option maxRecDepth 10000 in
theorem newSet_any (w : World) (zp : Addr) (B N c : Nat) (D : Nat → Int × Int) (hz : Zs w zp) (hB : B < w.heap.size) (hH : H6 w zp B 0 N D) (hD : allN N D) (hN : N ≤ 131072) :
    Calls Tryd.prog 26 #[.slice (some ⟨B, 0, none⟩) N c] w fun e w' => ∃ p l, e = .returned (.agg #[.pointer p]) ∧ SetOK w zp N D p l w' := by
  obtain ⟨W0, hW0⟩ : ∃ W, W = w.alloc (.cells #[.pointer none] 33) := ⟨_, rfl⟩
  have hb0 : RowKit.Below w.heap.size w W0 := by rw [hW0]; exact (RowKit.Below.refl _ _).alloc (Nat.le_refl _) _
  have hz0 := hz.below hb0
  have hs0 : 2 ≤ W0.heap.size := hz0.2.2.1
  have K35 := hide (clone_any W0 zp B N c D (hH.below hb0 hB) hN)
  have HZ := hide hz0
  have HS0 := hide hs0
  have HD := hide hD
  have HW0 := hide hW0
  clear hz hB hH hb0 hz0 hs0 hD
  by_cases h0 : N = 0
  · subst h0
    go_enter Tryd.func26, Tryd.ntmps26
    go_wp2_with (first
      | (go_at_call 35; rw [← unhide HW0]; refine Calls.mono (unhide K35) ?_; rintro e w1 ⟨g, cap, rfl, q1, q2, q3, q4, q5⟩; replace q1 := hide q1; replace q2 := hide q2; replace q3 := hide q3; replace q4 := hide q4; replace q5 := hide q5)
      | (go_at_call 36; refine Calls.mono (sort_none (some ⟨g, 0, none⟩) cap w1) ?_; rintro e w2 ⟨rfl, hw2⟩; obtain rfl : w1 = w2 := hw2.symm)
      | (go_at_call 38; refine Calls.mono (compact_zero w1 (some ⟨g, 0, none⟩) cap) ?_; rintro e w2 ⟨rfl, hw2⟩; obtain rfl : w1 = w2 := hw2.symm))
    have hz1 : Zs w1 zp := (unhide HZ).below (unhide q4)
    have K37 := hide (build_any 0 ((List.range 0).map D) 0 (some ⟨g, 0, none⟩) cap zp w1 (by simp) (by omega) (by omega) (by omega) hz1 (fun h => absurd rfl h) (fun x hx => by simp at hx))
    have C0 : Hid (Cpt w1 zp g 0 D 0 D w1) := ⟨RowKit.Below.refl _ _, fun i hi => absurd hi (by omega), Nat.le_refl _, fun i hi => absurd hi (by omega), fun i hi => absurd hi (by omega), fun i hi => absurd hi (by omega), unhide q2⟩
    clear hz1
    go_wp2_with (go_at_call 37; refine Calls.mono (unhide K37) ?_; rintro e w4 ⟨p, rfl, bl⟩; have np := newSet_post (unhide HW0) (unhide q1) (unhide q4) (RowKit.Below.refl _ _) (unhide C0) bl (unhide HD) (fun i hi => absurd hi (by omega)) (fun i hi => absurd hi (by omega)); replace bl := hide bl; have np2 := hide np.2; have np1 := np.1; clear np; have s0 : w4.cell? ⟨w.heap.size, 0, none⟩ = some (.pointer none) := cell_of_row _ _ _ _ _ _ np1; have s1 : w4.frozen? ⟨w.heap.size, 0, none⟩ = false := frozen_of_row _ _ _ _ _ np1; clear np1)
    exact bodyPost_ret (v := .agg #[.pointer p]) (by simp [results, Tryd.results26, go_sem, s0]) rfl ⟨p, _, rfl, unhide np2⟩
  · have HN0 := hide h0
    clear h0
    go_enter Tryd.func26, Tryd.ntmps26
    go_wp2_with (first
      | (go_at_call 35; rw [← unhide HW0]; refine Calls.mono (unhide K35) ?_; rintro e w1 ⟨g, cap, rfl, q1, q2, q3, q4, q5⟩; replace q1 := hide q1; replace q2 := hide q2; replace q3 := hide q3; replace q4 := hide q4; replace q5 := hide q5)
      | (go_at_call 36; refine Calls.mono (sortE_any w1 zp g cap N D ((unhide HZ).below (unhide q4)) (Nat.le_trans (unhide HS0) (unhide q1)) (unhide q2) hN (unhide q5)) ?_; rintro e w2 ⟨rfl, D', r1, r2, r3, r4, r5⟩; replace r1 := hide r1; replace r2 := hide r2; replace r3 := hide r3; replace r4 := hide r4; replace r5 := hide r5))
    refine Calls.mono (compact_any w2 zp g N cap D' (by omega) (unhide q3) (Nat.pos_of_ne_zero (unhide HN0)) (unhide r3) (unhide r2)) ?_
    rintro e w3 ⟨k, M, rfl, c0⟩
    have C0 := hide c0
    have hz3 : Zs w3 zp := ((((unhide HZ).below (unhide q4)).belowK (Nat.le_trans (unhide HS0) (unhide q1)) (unhide r1))).belowK (Nat.le_trans (unhide HS0) (unhide q1)) c0.1
    have K37 := hide (build_any N ((List.range k).map M) k (some ⟨g, 0, none⟩) cap zp w3 (by simp) c0.2.2.1 (Nat.le_trans c0.2.2.1 (unhide q3)) (by have := c0.2.2.1; omega) hz3 (fun _ => ⟨g, 0, rfl, c0.2.2.2.2.2.2, fun i h j hj => by
      have hi : i < k := by simpa using h
      have := c0.2.1 i hi j hj
      simpa using this⟩) (fun x hx => by
      obtain ⟨j, hj, rfl⟩ := List.mem_map.1 hx
      obtain ⟨i, hi', e⟩ := c0.2.2.2.2.2.1 j (by simpa using hj)
      obtain ⟨i2, hi2, e2⟩ := unhide r5 i hi'
      rw [e, e2]; exact unhide HD i2 hi2))
    clear c0 hz3
    go_wp2_with (go_at_call 37; refine Calls.mono (unhide K37) ?_; rintro e w4 ⟨p, rfl, bl⟩; have np := newSet_post (unhide HW0) (unhide q1) (unhide q4) (unhide r1) (unhide C0) bl (unhide HD) (unhide r4) (unhide r5); replace bl := hide bl; have np2 := hide np.2; have np1 := np.1; clear np; have s0 : w4.cell? ⟨w.heap.size, 0, none⟩ = some (.pointer none) := cell_of_row _ _ _ _ _ _ np1; have s1 : w4.frozen? ⟨w.heap.size, 0, none⟩ = false := frozen_of_row _ _ _ _ _ np1; clear np1)
    exact bodyPost_ret (v := .agg #[.pointer p]) (by simp [results, Tryd.results26, go_sem, s0]) rfl ⟨p, _, rfl, unhide np2⟩
end Go.Proofs.Qxb6609544aDoor
