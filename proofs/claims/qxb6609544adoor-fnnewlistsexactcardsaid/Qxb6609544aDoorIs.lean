import Derived.Test.Qxb6609544aDoorWalk
namespace Go.Proofs.Qxb6609544aDoor
open Go.RowKit Go.Sort

def LD (L : List (Int × Int)) (i : Nat) : Int × Int := L.getD i (0, 0)
theorem flat8_get : ∀ (L : List (Int × Int)) (i : Nat), i < L.length → ∀ j, j < 8 → (flat8 L)[i * 8 + j]? = (enc8 (LD L i))[j]?
  | [], i, h, _, _ => absurd h (by simp)
  | x :: L, 0, _, j, hj => by
    show (enc8 x ++ flat8 L)[0 * 8 + j]? = _
    rw [List.getElem?_append_left (by show 0 * 8 + j < 8; omega), Nat.zero_mul, Nat.zero_add]
    rfl
  | x :: L, i + 1, h, j, hj => by
    show (enc8 x ++ flat8 L)[(i + 1) * 8 + j]? = _
    have e : (enc8 x).length = 8 := rfl
    rw [List.getElem?_append_right (by rw [e]; omega), e, show (i + 1) * 8 + j - 8 = i * 8 + j by omega, flat8_get L i (by simpa using h) j hj]
    rfl
theorem out_R8 {w : World} {O : Nat} {v : Value} {L : List (Int × Int)} (h : Out w O v L) : ∃ og cg, v = .slice og L.length cg ∧ R8 w og L.length (LD L) := by
  have ho := h.own
  obtain ⟨-, -, ⟨hl, h | ⟨g, cap, cur, rfl, e2, e3, e4, e5, e6, e7⟩⟩, -⟩ := h
  · rw [h.2]; exact ⟨none, 0, h.1, fun h0 => absurd h0 (by omega)⟩
  · refine ⟨_, cap, rfl, fun _ => ⟨g, 0, rfl, (ho g rfl).2, fun i hi j hj => ?_⟩⟩
    rw [cell_of_row _ _ _ _ _ _ e3, Nat.zero_add, ← flat8_get L i hi j hj, ← e7, List.getElem?_take, if_pos (by omega)]
    simp
theorem LD_get (L : List (Int × Int)) (i : Nat) (h : i < L.length) : LD L i = L[i] := by simp [LD, h]

/-- The marks. -/
def Hit (w w' : World) (O : Nat) (v : Value) (l : List (Int × Int)) (H n : Nat) (hv : Nat → Bool) : Prop := Below w.heap.size w w' ∧ Out w' O v l ∧ (∀ j, j < n → w'.cell? ⟨H, j, none⟩ = some (.bool (hv j)) ∧ w'.frozen? ⟨H, j, none⟩ = false) ∧ w.heap.size ≤ H ∧ H < w'.heap.size ∧ H ≠ O ∧ v.ownBlock ≠ some H
theorem Hit.below {w w' w'' : World} {O : Nat} {v : Value} {l : List (Int × Int)} {H n : Nat} {hv : Nat → Bool} (h : Hit w w' O v l H n hv) (hb : Below w'.heap.size w' w'') : Hit w w'' O v l H n hv := by
  obtain ⟨h1, h2, h3, h4, h5, h6, h7⟩ := h
  refine ⟨h1.trans (hb.mono h1.size), h2.below hb, fun j hj => ?_, h4, Nat.lt_of_lt_of_le h5 hb.size, h6, h7⟩
  rw [hb.cell (p := ⟨H, j, none⟩) h5, hb.frozen (p := ⟨H, j, none⟩) h5]; exact h3 j hj
theorem Hit.put {w w' : World} {O : Nat} {v : Value} {l : List (Int × Int)} {H n : Nat} {hv : Nat → Bool} (h : Hit w w' O v l H n hv) (j : Nat) (hj : j < n) : Hit w (w'.setCell ⟨H, j, none⟩ (.bool true)) O v l H n (fun t => if t = j then true else hv t) := by
  obtain ⟨h1, h2, h3, h4, h5, h6, h7⟩ := h
  refine ⟨h1.setCell h4 _, ?_, fun t ht => ?_, h4, by rw [size_setCell]; exact h5, h6, h7⟩
  · obtain ⟨g1, g2, g3, g4⟩ := h2
    refine ⟨?_, by rw [World.frozen?_setCell]; exact g2, ownsRow_block g3 (fun g hg => Below.heap_setCell _ _ _ _ (fun e => h7 (by rw [hg]; exact congrArg some e))), by rw [size_setCell]; exact g4⟩
    rw [World.cell?_setCell_other _ _ _ _ (fun e => h6 (congrArg Addr.block e))]; exact g1
  · refine ⟨?_, by rw [World.frozen?_setCell]; exact (h3 t ht).2⟩
    show _ = some (Value.bool (if t = j then true else hv t))
    by_cases c : t = j
    · subst c; rw [if_pos rfl]; exact World.cell?_setCell_same _ _ _ (h3 t ht).1
    · rw [if_neg c, World.cell?_setCell_other _ _ _ _ (fun e => c (congrArg Addr.off e).symm)]; exact (h3 t ht).1

theorem ltE_irrefl (x : Int × Int) : ¬ ltE x x := by unfold ltE; omega
theorem asc_inj {N : Nat} {D : Nat → Int × Int} (h : asc N D) {i j : Nat} (hi : i < N) (hj : j < N) (e : D i = D j) : i = j := by
  rcases Nat.lt_trichotomy i j with c | c | c
  · have := asc_lt h (j - i - 1) i (by omega)
    rw [show i + (j - i - 1) + 1 = j by omega, e] at this
    exact absurd this (ltE_irrefl _)
  · exact c
  · have := asc_lt h (i - j - 1) j (by omega)
    rw [show j + (i - j - 1) + 1 = i by omega, e] at this
    exact absurd this (ltE_irrefl _)
theorem info4 : (Tryd.prog.info? 4).map (fun i => (i.zero, i.size, i.bytes)) = some (some (.bool false), 1, 1) := by kernel_rfl

set_option maxHeartbeats 4000000 in
set_option maxRecDepth 10000 in
theorem treeIs_any (w : World) (zp : Addr) (f : Nat) (p : Option Addr) (l : List (Int × Int)) (oa : Option Addr) (N c : Nat) (D : Nat → Int × Int)
    (hz : Zs w zp) (hT : Tree w zp w.heap.size f p l) (hal : allL l) (hasc : asc l.length (LD l)) (hl : l.length ≤ 131072) (hr : R8 w oa N D) (hD : allN N D) (hN : N ≤ 131072)
    (hin : ∀ i, i < N → ∃ j, j < l.length ∧ LD l j = D i) (hout : ∀ j, j < l.length → ∃ i, i < N ∧ LD l j = D i) :
    Calls Tryd.prog 11 #[.pointer p, .slice oa N c, .agg #[.int .u8 0, .int .u8 0, .int .u8 0, .int .u8 0, .int .u8 0, .int .u8 0, .int .u8 0, .int .u8 0], .bool false] w fun e w' => e = .returned (.bool true) ∧ Below w.heap.size w w' := by
  obtain ⟨b0, b1, b2, b3, eb⟩ := bytes4 (rv l)
  have hsz2 : 2 ≤ w.heap.size := hz.2.2.1
  have KW : Hid (∀ X Y, Calls Tryd.prog 27 #[.pointer p, .pointer (some ⟨w.heap.size + 1, 0, none⟩)] ((w.alloc (.cells X 37)).alloc (.cells #[.slice none 0 0] Y)) fun e w' => e = .returned (.tuple #[.int .i64 (l.length : Nat), .agg #[.int .u8 b0, .int .u8 b1, .int .u8 b2, .int .u8 b3], .bool true]) ∧ Wk ((w.alloc (.cells X 37)).alloc (.cells #[.slice none 0 0] Y)) (w.heap.size + 1) (.slice none 0 0) [] l w') := by
    intro X Y
    have hb : Below w.heap.size w ((w.alloc (.cells X 37)).alloc (.cells #[.slice none 0 0] Y)) := ((Below.refl _ _).alloc (Nat.le_refl _) _).alloc (by simp) _
    have hs1 : (w.alloc (.cells X 37)).heap.size = w.heap.size + 1 := by simp
    have hnew : ((w.alloc (.cells X 37)).alloc (.cells #[.slice none 0 0] Y)).heap[w.heap.size + 1]? = some (.cells #[.slice none 0 0] Y (0, 0)) := by rw [← hs1]; exact heap_alloc_new _ _
    have ho : Out ((w.alloc (.cells X 37)).alloc (.cells #[.slice none 0 0] Y)) (w.heap.size + 1) (.slice none 0 0) [] := ⟨cell_of_row _ _ _ _ _ _ hnew, frozen_of_row _ _ _ _ _ hnew, World.ownsRow_nil _ _ _ _, by simp⟩
    have h := walk_any zp w.heap.size (w.heap.size + 1) (by omega) hsz2 f p l _ _ [] (hT.below hb) (hz.below hb) ho hal (by simp; omega)
    unfold WalkC at h
    rw [eb] at h
    exact h
  have HI := hide hin
  have HO := hide hout
  have HA := hide hasc
  have HR := hide hr
  have HD := hide hD
  have HAL : Hid (allN l.length (LD l)) := fun i hi => by rw [LD_get l i hi]; exact hal _ (List.getElem_mem _)
  clear hT hz hal hasc hr hD hin hout eb
  go_enter Tryd.func11, Tryd.ntmps11
  go_upto_region 3 with (go_at_call 27; refine Calls.mono (unhide KW _ _) ?_; rintro e w1 ⟨rfl, HW1⟩; replace HW1 := hide HW1)
  obtain ⟨v', o1, f1⟩ := unhide HW1
  rw [List.nil_append] at o1
  have hb2 : Below w1.heap.size w1 (w1.alloc (.cells #[.int .u8 b0, .int .u8 b1, .int .u8 b2, .int .u8 b3] 35)) := (Below.refl _ _).alloc (Nat.le_refl _) _
  have o2 := o1.below hb2
  have B2 : Hid (Below w.heap.size w (w1.alloc (.cells #[.int .u8 b0, .int .u8 b1, .int .u8 b2, .int .u8 b3] 35))) := by
    have hb0 := fun X Y => (((Below.refl w.heap.size w).alloc (Nat.le_refl _) (.cells X 37)).alloc (by simp) (.cells #[.slice none 0 0] Y))
    have h1 := (hb0 _ _).trans (f1.toBelow (k := w.heap.size) (by simp; omega) (by omega) (fun g hg => by cases hg))
    exact h1.trans (hb2.mono h1.size)
  obtain ⟨og, cg, rfl, r8⟩ := out_R8 o2
  have ho2 := o2.1
  have O2 := hide o2
  have R2 := hide r8
  clear o1 f1 o2 r8 HW1 hb2 KW
  generalize (w1.alloc (.cells #[.int .u8 b0, .int .u8 b1, .int .u8 b2, .int .u8 b3] 35)) = W2 at *
  have K28 : Hid (Calls Tryd.prog 28 #[.slice og l.length cg] W2 fun e w' => e = .returned (.bool true) ∧ Gr W2 w') := ascending_any og l.length cg (LD l) W2 (unhide R2) (by omega) (unhide HAL) (unhide HA)
  obtain ⟨i4, hi, hz0, hz1, hz2⟩ := info_parts info4
  go_wp2_with (first
    | (go_at_call 28; refine Calls.mono (unhide K28) ?_; rintro e w3 ⟨rfl, HG3⟩; have o3 := ((unhide O2).below (Gr.below HG3)).1; replace HG3 := hide HG3)
    | (at_make; refine wpList_make_full _ rfl _ _ 63 rfl w3.heap.size 4 i4 _ 1 Tryd.underlying63 hi hz0 hz1 .i64 .i64 _ _ l.length rfl rfl rfl rfl (by rw [hz2]; omega) (by unfold maxLen; omega) (Nat.le_refl _) ?_; intro w4 hown hgrow))
  have H4 : Hid (Hit w w4 (w.heap.size + 1) (.slice og l.length cg) l w3.heap.size l.length (fun _ => false)) := by
    have g3 := (unhide HG3).below
    have o3' := (unhide O2).below g3
    have hb3 : Below w.heap.size w w3 := (unhide B2).trans (g3.mono (unhide B2).size)
    have hb4 : Below w3.heap.size w3 w4 := (Below.refl _ _).grown hgrow (Nat.le_refl _) (fun k hk => by cases hk)
    obtain ⟨-, h | ⟨g, cap, cur, q1, q2, q3, q4, q5, q6, q7⟩⟩ := hown
    · exact absurd h.1 (by simp)
    · obtain ⟨rfl, rfl⟩ : w3.heap.size = g ∧ l.length = cap := by simpa using q1
      have hlt : w3.heap.size < w4.heap.size := by
        rcases Nat.lt_or_ge w3.heap.size w4.heap.size with h | h
        · exact h
        · rw [Array.getElem?_eq_none h] at q3; exact absurd q3 (by simp)
      refine ⟨hb3.trans (hb4.mono hb3.size), o3'.below hb4, fun j hj => ⟨?_, frozen_of_row _ _ _ _ _ q3⟩, hb3.size, hlt, by have := o3'.2.2.2; omega, fun e => by have := (o3'.own _ e).2; omega⟩
      rw [cell_of_row _ _ _ _ _ _ q3]
      have e : cur[j]? = (cur.toList.take (l.length * 1))[j]? := by rw [List.getElem?_take, if_pos (by omega)]; simp
      rw [e, q7]
      simp [madeCells, Value.cells, hj, Nat.mod_one]
  clear hown hgrow hi hz0 hz1 hz2 o3 ho2 K28
  generalize w3.heap.size = H at *
  go_loopg [14, 15] N (fun g kv av w' => ∃ (k : Nat) (hv : Nat → Bool), g = N - k ∧ k ≤ N ∧ kv = .int .i64 k ∧ Hid (Hit w w' (w.heap.size + 1) (.slice og l.length cg) l H l.length hv) ∧ Hid (∀ i, i < k → ∀ j, j < l.length → LD l j = D i → hv j = true))
  case atStart => exact ⟨0, fun _ => false, rfl, by omega, rfl, H4, fun i hi => absurd hi (by omega)⟩
  case round =>
    clear H4
    obtain ⟨k, hv, hg, hk, rfl, HH, HM⟩ := hrel
    have HG := hide hg
    clear hg
    by_cases hkN : k < N
    · obtain ⟨b, off, rfl, hb, hcw⟩ := unhide HR (by omega)
      obtain ⟨pq, hpq, epq⟩ := unhide HI k hkN
      obtain ⟨a0, a1, a2, a3, c0, c1, c2, c3, he, Ha, Hc, Ea, Ec⟩ := bytes8 (D k) (unhide HD k hkN).1 (unhide HD k hkN).2
      have hbl := (unhide HH).1
      have hcl := cells_at (w := wr) (w' := wr) (b := b) (o := off + k * 8) (x := D k) (by have := hbl.size; omega) (fun j hj => (hbl.cell (p := ⟨b, off + k * 8 + j, none⟩) hb).trans (hcw k hkN j hj)) he (Gr.refl _)
      have hc0 := fun n os => (hcl n os).1
      have hc1 := fun n os => (hcl n os).2.1
      have hc2 := fun n os => (hcl n os).2.2.1
      have hc3 := fun n os => (hcl n os).2.2.2.1
      have hc4 := fun n os => (hcl n os).2.2.2.2.1
      have hc5 := fun n os => (hcl n os).2.2.2.2.2.1
      have hc6 := fun n os => (hcl n os).2.2.2.2.2.2.1
      have hc7 := fun n os => (hcl n os).2.2.2.2.2.2.2
      have K29 : Hid (∀ n os, Calls Tryd.prog 29 #[.slice og l.length cg, .agg #[.int .u8 a0, .int .u8 a1, .int .u8 a2, .int .u8 a3, .int .u8 c0, .int .u8 c1, .int .u8 c2, .int .u8 c3]] (grow (wr.drewN n) os) fun e w' => e = .returned (.int .i64 pq) ∧ ∃ q os', w' = grow ((grow (wr.drewN n) os).drewN q) os') := by
        intro n os
        have ho := ((unhide HH).2.1).below (Gr.below ⟨n, os, rfl⟩)
        obtain ⟨og', cg', ev, r8⟩ := out_R8 ho
        obtain ⟨rfl, rfl⟩ : og = og' ∧ cg = cg' := by simpa using ev
        have h := find_any og l.length cg (LD l) pq _ r8 (by omega) (unhide HAL) (unhide HA) hpq
        rw [epq, he] at h
        exact h
      have ho : ∀ n os, (grow (wr.drewN n) os).cell? ⟨w.heap.size + 1, 0, none⟩ = some (.slice og l.length cg) := fun n os => (((unhide HH).2.1).below (Gr.below ⟨n, os, rfl⟩)).1
      have hh : ∀ n os, (grow (wr.drewN n) os).cell? ⟨H, pq, none⟩ = some (.bool (hv pq)) := fun n os => ((((unhide HH)).below (Gr.below ⟨n, os, rfl⟩)).2.2.1 pq hpq).1
      have hf : ∀ n os, (grow (wr.drewN n) os).frozen? ⟨H, pq, none⟩ = false := fun n os => ((((unhide HH)).below (Gr.below ⟨n, os, rfl⟩)).2.2.1 pq hpq).2
      have hp0 : (0 : Int) ≤ (pq : Int) := by omega
      have hp1 : (pq : Int) < (l.length : Int) := by omega
      have EPQ := hide epq
      have hmo := hmo
      clear hcl he hbl hcw hb epq Ea Ec Ha Hc
      go_wp2_with fail
      go_quiet_grown (first | (go_at_call 29; refine Calls.grown_of (unhide K29 _ _)))
      go_wp2_with fail
      go_roundg (N - (k + 1))
      case measure => rw [unhide HG]; omega
      case rel =>
        refine ⟨k + 1, fun t => if t = pq then true else hv t, rfl, by omega, rfl, ((unhide HH).below (Gr.below ⟨nq, osq, rfl⟩)).put pq hpq, fun i hi j hj e => ?_⟩
        show (if j = pq then true else hv j) = true
        by_cases c : i = k
        · subst c
          rw [if_pos (asc_inj (unhide HA) hj hpq (e.trans (unhide EPQ).symm))]
        · by_cases c2 : j = pq
          · rw [if_pos c2]
          · rw [if_neg c2]; exact unhide HM i (by omega) j hj e
    · obtain rfl : k = N := by omega
      have HALL : Hid (∀ j, j < l.length → hv j = true) := fun j hj => by
        obtain ⟨i, hi, e⟩ := unhide HO j hj
        exact unhide HM i hi j hj e
      clear HM HR HI HO HD
      go_wp2_with fail
      go_loopg [17] l.length (fun g kv w' => ∃ m : Nat, g = l.length - m ∧ m ≤ l.length ∧ kv = .int .i64 m ∧ Hid (Hit w w' (w.heap.size + 1) (.slice og l.length cg) l H l.length hv))
      case atStart => exact ⟨0, rfl, by omega, rfl, HH⟩
      case round =>
        clear HH
        obtain ⟨m, hg, hm, rfl, HH⟩ := hrel
        have HG := hide hg
        clear hg
        by_cases hml : m < l.length
        · have hh := ((unhide HH).2.2.1 m hml).1
          rw [unhide HALL m hml] at hh
          go_wp2_with fail
          go_roundg (l.length - (m + 1))
          case measure => rw [unhide HG]; omega
          case rel => exact ⟨m + 1, rfl, by omega, rfl, HH⟩
        · obtain rfl : m = l.length := by omega
          go_wp2_with fail
          go_ret
          exact ⟨rfl, (unhide HH).1⟩
end Go.Proofs.Qxb6609544aDoor
