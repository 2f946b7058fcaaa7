import Derived.Test.Qxb6609544aDoorBuild
import Derived.OwnWalk
import Derived.Laws.IdiomCopy
namespace Go.Proofs.Qxb6609544aDoor
open Go.RowKit Go.Sort

theorem info49 : (Tryd.prog.info? 49).map (fun i => (i.zero, i.size, i.bytes)) = some (some (.agg #[.int .u64 0, .int .u64 0, .pointer none, .int .u64 0, .int .u64 0, .pointer none]), 6, 48) := by kernel_rfl

/-- n entries held in a row. -/
def H6 (w : World) (zp : Addr) (blk off n : Nat) (D : Nat → Int × Int) : Prop := ∀ i, i < n → ∀ j, j < 6 → w.cell? ⟨blk, off + i * 6 + j, none⟩ = (enc6 zp (D i))[j]?
/-- A row that may be written. -/
def F6 (w : World) (blk off N : Nat) : Prop := ∀ k, k < N * 6 → (w.cell? ⟨blk, off + k, none⟩).isSome = true ∧ w.frozen? ⟨blk, off + k, none⟩ = false

theorem len6 (zp : Addr) (x : Int × Int) : (enc6 zp x).length = 6 := rfl
theorem put6_cell {w : World} {zp : Addr} {blk off N : Nat} (hF : F6 w blk off N) {i : Nat} (hi : i < N) (x : Int × Int) (t j : Nat) (hj : j < 6) : (w.setCells blk (off + i * 6) (enc6 zp x)).cell? ⟨blk, off + t * 6 + j, none⟩ = if t = i then (enc6 zp x)[j]? else w.cell? ⟨blk, off + t * 6 + j, none⟩ := by
  by_cases h : t = i
  · subst h
    rw [if_pos rfl, World.cell?_setCells_in blk (enc6 zp x) (off + t * 6) w (fun k hk => by rw [len6] at hk; rw [Nat.add_assoc]; exact (hF (t * 6 + k) (by omega)).1) j hj]
    exact (List.getElem?_eq_getElem _).symm
  · rw [if_neg h]
    refine World.cell?_setCells_out blk (enc6 zp x) (off + i * 6) w _ (fun _ _ => ?_)
    rw [len6]
    show off + t * 6 + j < _ ∨ _ ≤ off + t * 6 + j
    omega
theorem F6.put {w : World} {zp : Addr} {blk off N : Nat} (hF : F6 w blk off N) {i : Nat} (hi : i < N) (x : Int × Int) : F6 (w.setCells blk (off + i * 6) (enc6 zp x)) blk off N := by
  intro k hk
  refine ⟨?_, by rw [World.frozen?_setCells]; exact (hF k hk).2⟩
  have e : off + k = off + (k / 6) * 6 + k % 6 := by omega
  rw [e, put6_cell hF hi x (k / 6) (k % 6) (by omega)]
  split
  · have : k % 6 < (enc6 zp x).length := by rw [len6]; omega
    simp [this]
  · rw [← e]; exact (hF k hk).1
theorem H6.below {w w' : World} {zp : Addr} {blk off n : Nat} {D : Nat → Int × Int} (h : H6 w zp blk off n D) {k : Nat} (hb : Below k w w') (hk : blk < k) : H6 w' zp blk off n D := fun i hi j hj => (hb.cell (p := ⟨blk, off + i * 6 + j, none⟩) hk).trans (h i hi j hj)
theorem F6.below {w w' : World} {blk off n : Nat} (h : F6 w blk off n) {k : Nat} (hb : Below k w w') (hk : blk < k) : F6 w' blk off n := fun i hi => by
  rw [hb.cell (p := ⟨blk, off + i, none⟩) hk, hb.frozen (p := ⟨blk, off + i, none⟩) hk]; exact h i hi
theorem below_setCells {k : Nat} {a : World} (blk : Nat) (hk : k ≤ blk) : ∀ (vs : List Value) (o : Nat) {w : World}, Below k a w → Below k a (w.setCells blk o vs)
  | [], _, _, h => h
  | v :: vs, o, w, h => below_setCells blk hk vs (o + 1) (w := w.setCell ⟨blk, o, none⟩ v) (h.setCell hk v)
theorem size_setCells (blk : Nat) : ∀ (vs : List Value) (o : Nat) (w : World), (w.setCells blk o vs).heap.size = w.heap.size
  | [], _, _ => rfl
  | v :: vs, o, w => (size_setCells blk vs (o + 1) (w.setCell ⟨blk, o, none⟩ v)).trans (size_setCell _ _ _)

/-- What entriesOf leaves. -/
def Ent (w : World) (zp : Addr) (N k : Nat) (D : Nat → Int × Int) (w' : World) : Prop := Below w.heap.size w w' ∧ H6 w' zp w.heap.size 0 k D ∧ F6 w' w.heap.size 0 N ∧ w.heap.size < w'.heap.size

theorem chain6 (w8 : World) (B o : Nat) (zp : Addr) (x : Int × Int) : ((((((w8.setCell ⟨B, o, none⟩ (.int .u64 0)).setCell ⟨B, o + 1, none⟩ (.int .u64 (281470681743360 + x.1))).setCell ⟨B, o + 2, none⟩ (.pointer (some zp))).setCell ⟨B, o + 3, none⟩ (.int .u64 0)).setCell ⟨B, o + 4, none⟩ (.int .u64 (281470681743360 + x.2))).setCell ⟨B, o + 5, none⟩ (.pointer (some zp))) = w8.setCells B o (enc6 zp x) := rfl
theorem Ent.step {w wr w8 : World} {zp : Addr} {N k : Nat} {D : Nat → Int × Int} (h : Ent w zp N k D wr) (hk : k < N) (hb : Below wr.heap.size wr w8) : Ent w zp N (k + 1) D (w8.setCells w.heap.size (k * 6) (enc6 zp (D k))) := by
  obtain ⟨g1, g2, g3, g4⟩ := h
  have f8 : F6 w8 w.heap.size 0 N := g3.below hb g4
  have h8 := g2.below hb g4
  have e : k * 6 = 0 + k * 6 := (Nat.zero_add _).symm
  rw [e]
  refine ⟨below_setCells _ (Nat.le_refl _) _ _ (g1.trans (hb.mono g1.size)), fun i hi j hj => ?_, f8.put hk _, by rw [size_setCells]; exact Nat.lt_of_lt_of_le g4 hb.size⟩
  rw [put6_cell f8 hk (D k) i j hj]
  by_cases c : i = k
  · rw [if_pos c, c]
  · rw [if_neg c]; exact h8 i (by omega) j hj

set_option maxHeartbeats 2000000 in
set_option maxRecDepth 10000 in
theorem entriesOf_any (w : World) (zp : Addr) (oa : Option Addr) (N c : Nat) (D : Nat → Int × Int) (hz : Zs w zp) (hr : R8 w oa N D) (ha : allN N D) (hN : N ≤ 131072) :
    Calls Tryd.prog 10 #[.slice oa N c] w fun e w' => e = .returned (.slice (some ⟨w.heap.size, 0, none⟩) N N) ∧ Ent w zp N N D w' := by
  obtain ⟨i49, hi, hz0, hz1, hz2⟩ := info_parts info49
  have HZ := hide hz
  have HR := hide hr
  have HA := hide ha
  clear hz hr ha
  go_enter Tryd.func10, Tryd.ntmps10
  go_wp2_with (at_make; refine wpList_make_full _ rfl _ _ 27 rfl w.heap.size 49 i49 _ 6 Tryd.underlying27 hi hz0 hz1 .i64 .i64 _ _ N rfl rfl rfl rfl (by rw [hz2]; omega) (by unfold maxLen; omega) (Nat.le_refl _) ?_; intro w1 hown hgrow)
  have h1 : Hid (Ent w zp N 0 D w1) := by
    obtain ⟨-, h | ⟨g, cap, cur, e1, e2, e3, e4, e5, e6, e7⟩⟩ := hown
    · exact absurd h.1 (by simp)
    · obtain ⟨rfl, rfl⟩ : w.heap.size = g ∧ N = cap := by simpa using e1
      refine ⟨(Below.refl _ _).grown hgrow (Nat.le_refl _) (fun k hk => by cases hk), fun i hi => absurd hi (by omega), fun k hk => ?_, ?_⟩
      · rw [cell_of_row _ _ _ _ _ _ e3, Nat.zero_add, frozen_of_row _ _ _ _ _ e3]
        exact ⟨by rw [Array.getElem?_eq_getElem (by omega)]; rfl, rfl⟩
      · rcases Nat.lt_or_ge w.heap.size w1.heap.size with h | h
        · exact h
        · rw [Array.getElem?_eq_none h] at e3; exact absurd e3 (by simp)
  clear hown hgrow hi hz0 hz1 hz2
  go_loopg [4] N (fun g kv w' => ∃ k : Nat, g = N - k ∧ k ≤ N ∧ kv = .int .i64 k ∧ Hid (Ent w zp N k D w'))
  case atStart => exact ⟨0, rfl, by omega, rfl, h1⟩
  case round =>
    clear h1
    obtain ⟨k, hg, hk, rfl, HE⟩ := hrel
    have HG := hide hg
    clear hg
    by_cases hkN : k < N
    · obtain ⟨b, off, rfl, hb, hcl⟩ := unhide HR (by omega)
      have hx := unhide HA k hkN
      obtain ⟨a0, a1, a2, a3, c0, c1, c2, c3, he, Ha, Hc, Ea, Ec⟩ := bytes8 (D k) hx.1 hx.2
      have KE : Hid (∀ W, Zs W zp → Calls Tryd.prog 21 #[.agg #[.int .u8 a0, .int .u8 a1, .int .u8 a2, .int .u8 a3], .agg #[.int .u8 c0, .int .u8 c1, .int .u8 c2, .int .u8 c3]] W fun e w' => e = .returned (.agg #[.int .u64 0, .int .u64 (281470681743360 + (D k).1), .pointer (some zp), .int .u64 0, .int .u64 (281470681743360 + (D k).2), .pointer (some zp)]) ∧ Below W.heap.size W w') := by
        intro W hW
        have h := entry4_any (D k) hx.1 hx.2 zp W hW
        have e' : arr4 (D k).1 = [.int .u8 a0, .int .u8 a1, .int .u8 a2, .int .u8 a3] ∧ arr4 (D k).2 = [.int .u8 c0, .int .u8 c1, .int .u8 c2, .int .u8 c3] := by
          have e0 : arr4 (D k).1 ++ arr4 (D k).2 = [.int .u8 a0, .int .u8 a1, .int .u8 a2, .int .u8 a3] ++ [.int .u8 c0, .int .u8 c1, .int .u8 c2, .int .u8 c3] := he
          exact List.append_inj e0 rfl
        rw [e'.1, e'.2] at h
        exact h
      obtain ⟨g1, g2, g3, g4⟩ := unhide HE
      have hsz := g1.size
      have hu : ∀ j, j < 6 → ∃ u, wr.cell? ⟨w.heap.size, k * 6 + j, none⟩ = some u := fun j hj => by
        have := (g3 (k * 6 + j) (by omega)).1
        rw [Nat.zero_add] at this
        exact Option.isSome_iff_exists.1 this
      have hf : ∀ j, j < 6 → wr.frozen? ⟨w.heap.size, k * 6 + j, none⟩ = false := fun j hj => by
        have := (g3 (k * 6 + j) (by omega)).2
        rw [Nat.zero_add] at this
        exact this
      obtain ⟨u0, hu0⟩ := hu 0 (by omega)
      obtain ⟨u1, hu1⟩ := hu 1 (by omega)
      obtain ⟨u2, hu2⟩ := hu 2 (by omega)
      obtain ⟨u3, hu3⟩ := hu 3 (by omega)
      obtain ⟨u4, hu4⟩ := hu 4 (by omega)
      obtain ⟨u5, hu5⟩ := hu 5 (by omega)
      have d1 : ¬ b = w.heap.size := by omega
      have d2 : ¬ w.heap.size = b := by omega
      have K1 : Hid (∀ W, Below wr.heap.size wr W → W.cell? ⟨b, off + k * 8, none⟩ = some (.int .u8 a0) ∧ W.cell? ⟨b, off + k * 8 + 1, none⟩ = some (.int .u8 a1) ∧ W.cell? ⟨b, off + k * 8 + 2, none⟩ = some (.int .u8 a2) ∧ W.cell? ⟨b, off + k * 8 + 3, none⟩ = some (.int .u8 a3) ∧ W.cell? ⟨b, off + k * 8 + 4, none⟩ = some (.int .u8 c0) ∧ W.cell? ⟨b, off + k * 8 + 5, none⟩ = some (.int .u8 c1) ∧ W.cell? ⟨b, off + k * 8 + 6, none⟩ = some (.int .u8 c2) ∧ W.cell? ⟨b, off + k * 8 + 7, none⟩ = some (.int .u8 c3)) := by
        intro W hW
        have q : ∀ j, j < 8 → W.cell? ⟨b, off + k * 8 + j, none⟩ = [Value.int .u8 a0, .int .u8 a1, .int .u8 a2, .int .u8 a3, .int .u8 c0, .int .u8 c1, .int .u8 c2, .int .u8 c3][j]? := fun j hj => by
          rw [hW.cell (p := ⟨b, off + k * 8 + j, none⟩) (by show b < _; omega), g1.cell (p := ⟨b, off + k * 8 + j, none⟩) hb, hcl k hkN j hj, he]
        exact ⟨q 0 (by omega), q 1 (by omega), q 2 (by omega), q 3 (by omega), q 4 (by omega), q 5 (by omega), q 6 (by omega), q 7 (by omega)⟩
      have K2 : Hid (∀ W, Below wr.heap.size wr W → (W.cell? ⟨w.heap.size, k * 6, none⟩ = some u0 ∧ W.cell? ⟨w.heap.size, k * 6 + 1, none⟩ = some u1 ∧ W.cell? ⟨w.heap.size, k * 6 + 2, none⟩ = some u2 ∧ W.cell? ⟨w.heap.size, k * 6 + 3, none⟩ = some u3 ∧ W.cell? ⟨w.heap.size, k * 6 + 4, none⟩ = some u4 ∧ W.cell? ⟨w.heap.size, k * 6 + 5, none⟩ = some u5) ∧ (W.frozen? ⟨w.heap.size, k * 6, none⟩ = false ∧ W.frozen? ⟨w.heap.size, k * 6 + 1, none⟩ = false ∧ W.frozen? ⟨w.heap.size, k * 6 + 2, none⟩ = false ∧ W.frozen? ⟨w.heap.size, k * 6 + 3, none⟩ = false ∧ W.frozen? ⟨w.heap.size, k * 6 + 4, none⟩ = false ∧ W.frozen? ⟨w.heap.size, k * 6 + 5, none⟩ = false)) := by
        intro W hW
        have q : ∀ j, W.cell? ⟨w.heap.size, k * 6 + j, none⟩ = wr.cell? ⟨w.heap.size, k * 6 + j, none⟩ := fun j => hW.cell (p := ⟨w.heap.size, k * 6 + j, none⟩) g4
        have q' : ∀ j, W.frozen? ⟨w.heap.size, k * 6 + j, none⟩ = wr.frozen? ⟨w.heap.size, k * 6 + j, none⟩ := fun j => hW.frozen (p := ⟨w.heap.size, k * 6 + j, none⟩) g4
        exact ⟨⟨(q 0).trans hu0, (q 1).trans hu1, (q 2).trans hu2, (q 3).trans hu3, (q 4).trans hu4, (q 5).trans hu5⟩, (q' 0).trans (hf 0 (by omega)), (q' 1).trans (hf 1 (by omega)), (q' 2).trans (hf 2 (by omega)), (q' 3).trans (hf 3 (by omega)), (q' 4).trans (hf 4 (by omega)), (q' 5).trans (hf 5 (by omega))⟩
      have HZr : Hid (Zs wr zp) := (unhide HZ).below g1
      have k1 := unhide K1 wr (Below.refl _ _)
      clear g1 g2 g3 g4 hsz hu hf hu0 hu1 hu2 hu3 hu4 hu5 hcl hb hx he Ea Ec Ha Hc HR
      go_wp2_with fail
      go_region_held3 (fun w' => w'.cell? ⟨b, off + k * 8, none⟩ = some (.int .u8 a0) ∧ w'.cell? ⟨b, off + k * 8 + 1, none⟩ = some (.int .u8 a1) ∧ w'.cell? ⟨b, off + k * 8 + 2, none⟩ = some (.int .u8 a2) ∧ w'.cell? ⟨b, off + k * 8 + 3, none⟩ = some (.int .u8 a3) ∧ w'.cell? ⟨b, off + k * 8 + 4, none⟩ = some (.int .u8 c0) ∧ w'.cell? ⟨b, off + k * 8 + 5, none⟩ = some (.int .u8 c1) ∧ w'.cell? ⟨b, off + k * 8 + 6, none⟩ = some (.int .u8 c2) ∧ w'.cell? ⟨b, off + k * 8 + 7, none⟩ = some (.int .u8 c3))
        (go_keep) (first
          | (go_at_call 21; refine Calls.mono (unhide KE _ ?_) ?_; exact (unhide HZr).drew; rintro e w8 ⟨rfl, HG8⟩; have HB8 := hide ((Below.refl _ wr).drew.trans HG8); have hc8 := unhide K1 w8 (unhide HB8); have hd8 := unhide K2 w8 (unhide HB8); clear HG8))
      rw [chain6]
      go_wp2_with fail
      go_roundg (N - (k + 1))
      case measure => rw [unhide HG]; omega
      case rel => exact ⟨k + 1, rfl, by omega, rfl, (unhide HE).step hkN (unhide HB8)⟩
    · obtain rfl : k = N := by omega
      go_wp2_with fail
      go_ret
      exact ⟨rfl, unhide HE⟩
end Go.Proofs.Qxb6609544aDoor
