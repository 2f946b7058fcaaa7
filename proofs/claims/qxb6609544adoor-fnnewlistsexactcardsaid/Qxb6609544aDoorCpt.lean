import Derived.Test.Qxb6609544aDoorEqs
import Derived.Test.Qxb6609544aDoorFind
namespace Go.Proofs.Qxb6609544aDoor
open Go.RowKit Go.Sort

/-- Sorted, not strictly. -/
def srt (N : Nat) (D : Nat → Int × Int) : Prop := ∀ i, i + 1 < N → ¬ ltE (D (i + 1)) (D i)
/-- M's first k are D's first n without repeats. -/
def Ded (D : Nat → Int × Int) (n k : Nat) (M : Nat → Int × Int) : Prop := 1 ≤ k ∧ k ≤ n ∧ asc k M ∧ M (k - 1) = D (n - 1) ∧ (∀ i, i < n → ∃ j, j < k ∧ M j = D i) ∧ (∀ j, j < k → ∃ i, i < n ∧ M j = D i)
theorem Ded.start {D : Nat → Int × Int} {n : Nat} (h1 : 1 ≤ n) (h : asc n D) : Ded D n n D := ⟨h1, Nat.le_refl _, h, rfl, fun i hi => ⟨i, hi, rfl⟩, fun i hi => ⟨i, hi, rfl⟩⟩
theorem Ded.keep {D M : Nat → Int × Int} {n k : Nat} (h : Ded D n k M) (he : D n = D (n - 1)) : Ded D (n + 1) k M := by
  obtain ⟨h1, h2, h3, h4, h5, h6⟩ := h
  refine ⟨h1, by omega, h3, by rw [h4, Nat.add_sub_cancel, he], fun i hi => ?_, fun j hj => ?_⟩
  · by_cases c : i = n
    · subst c; exact ⟨k - 1, by omega, by rw [h4, he]⟩
    · exact h5 i (by omega)
  · obtain ⟨i, hi, e⟩ := h6 j hj; exact ⟨i, by omega, e⟩
theorem Ded.add {D M : Nat → Int × Int} {n k N : Nat} (h : Ded D n k M) (hs : srt N D) (hn : n < N) (he : ¬ D n = D (n - 1)) : Ded D (n + 1) (k + 1) (fun t => if t = k then D n else M t) := by
  obtain ⟨h1, h2, h3, h4, h5, h6⟩ := h
  have hlt : ltE (D (n - 1)) (D n) := by
    have q := hs (n - 1) (by omega)
    rw [Nat.sub_add_cancel (by omega)] at q
    generalize D (n - 1) = x at *
    generalize D n = y at *
    obtain ⟨x1, x2⟩ := x
    obtain ⟨y1, y2⟩ := y
    simp only [ltE, Prod.mk.injEq] at *
    omega
  refine ⟨by omega, by omega, fun i hi => ?_, ?_, fun i hi => ?_, fun j hj => ?_⟩
  · show cmpE (if i = k then D n else M i) (if i + 1 = k then D n else M (i + 1)) < 0
    rw [if_neg (by omega)]
    by_cases c : i + 1 = k
    · rw [if_pos c, show i = k - 1 by omega, h4]; exact cmpE_neg.2 hlt
    · rw [if_neg c]; exact h3 i (by omega)
  · show (if k + 1 - 1 = k then D n else M (k + 1 - 1)) = D (n + 1 - 1)
    rw [if_pos (by omega)]; rfl
  · by_cases c : i = n
    · subst c; exact ⟨k, by omega, if_pos rfl⟩
    · obtain ⟨j, hj, e⟩ := h5 i (by omega)
      exact ⟨j, by omega, by show (if j = k then D n else M j) = _; rw [if_neg (by omega)]; exact e⟩
  · by_cases c : j = k
    · exact ⟨n, by omega, if_pos c⟩
    · obtain ⟨i, hi, e⟩ := h6 j (by omega)
      exact ⟨i, by omega, by show (if j = k then D n else M j) = _; rw [if_neg c]; exact e⟩

/-- The row as the calls hold it. -/
def CI (w : World) (zp : Addr) (blk N : Nat) (M : Nat → Int × Int) (wr : World) : Prop := Below blk w wr ∧ H6 wr zp blk 0 N M ∧ F6 wr blk 0 N ∧ blk < wr.heap.size
theorem CI.cells {w wr : World} {zp : Addr} {blk N : Nat} {M : Nat → Int × Int} (h : CI w zp blk N M wr) (i o : Nat) (hi : i < N) (ho : o = i * 6) : wr.cell? ⟨blk, o, none⟩ = some (.int .u64 0) ∧ wr.cell? ⟨blk, o + 1, none⟩ = some (.int .u64 (281470681743360 + (M i).1)) ∧ wr.cell? ⟨blk, o + 2, none⟩ = some (.pointer (some zp)) ∧ wr.cell? ⟨blk, o + 3, none⟩ = some (.int .u64 0) ∧ wr.cell? ⟨blk, o + 4, none⟩ = some (.int .u64 (281470681743360 + (M i).2)) ∧ wr.cell? ⟨blk, o + 5, none⟩ = some (.pointer (some zp)) := by
  subst ho
  have q : ∀ j, j < 6 → wr.cell? ⟨blk, i * 6 + j, none⟩ = (enc6 zp (M i))[j]? := fun j hj => by
    have := h.2.1 i hi j hj
    rw [Nat.zero_add] at this; exact this
  exact ⟨q 0 (by omega), q 1 (by omega), q 2 (by omega), q 3 (by omega), q 4 (by omega), q 5 (by omega)⟩
theorem CI.froz {w wr : World} {zp : Addr} {blk N : Nat} {M : Nat → Int × Int} (h : CI w zp blk N M wr) (i : Nat) (hi : i < N) : wr.frozen? ⟨blk, i * 6, none⟩ = false ∧ wr.frozen? ⟨blk, i * 6 + 1, none⟩ = false ∧ wr.frozen? ⟨blk, i * 6 + 2, none⟩ = false ∧ wr.frozen? ⟨blk, i * 6 + 3, none⟩ = false ∧ wr.frozen? ⟨blk, i * 6 + 4, none⟩ = false ∧ wr.frozen? ⟨blk, i * 6 + 5, none⟩ = false := by
  have q : ∀ j, j < 6 → wr.frozen? ⟨blk, i * 6 + j, none⟩ = false := fun j hj => by
    have := (h.2.2.1 (i * 6 + j) (by omega)).2
    rw [Nat.zero_add] at this; exact this
  exact ⟨q 0 (by omega), q 1 (by omega), q 2 (by omega), q 3 (by omega), q 4 (by omega), q 5 (by omega)⟩
theorem CI.drewN {w wr : World} {zp : Addr} {blk N : Nat} {M : Nat → Int × Int} (h : CI w zp blk N M wr) (n : Nat) : CI w zp blk N M (wr.drewN n) := ⟨⟨h.1.os, h.1.tape, h.1.output, h.1.size, h.1.block⟩, h.2.1, h.2.2.1, h.2.2.2⟩
theorem CI.put {w wr : World} {zp : Addr} {blk N : Nat} {M : Nat → Int × Int} (h : CI w zp blk N M wr) (k : Nat) (hk : k < N) (x : Int × Int) : CI w zp blk N (fun t => if t = k then x else M t) (wr.setCells blk (k * 6) (enc6 zp x)) := by
  obtain ⟨g1, g2, g3, g4⟩ := h
  have e : k * 6 = 0 + k * 6 := (Nat.zero_add _).symm
  rw [e]
  refine ⟨below_setCells _ (Nat.le_refl _) _ _ g1, fun i hi j hj => ?_, g3.put hk _, by rw [size_setCells]; exact g4⟩
  rw [put6_cell g3 hk x i j hj]
  by_cases c : i = k
  · rw [if_pos c]
    show _ = (enc6 zp (if i = k then x else M i))[j]?
    rw [if_pos c]
  · rw [if_neg c]
    show _ = (enc6 zp (if i = k then x else M i))[j]?
    rw [if_neg c]; exact g2 i hi j hj

/-- What Compact leaves. -/
def Cpt (w : World) (zp : Addr) (blk N : Nat) (D : Nat → Int × Int) (k : Nat) (M : Nat → Int × Int) (w' : World) : Prop := Below blk w w' ∧ H6 w' zp blk 0 k M ∧ k ≤ N ∧ asc k M ∧ (∀ i, i < N → ∃ j, j < k ∧ M j = D i) ∧ (∀ j, j < k → ∃ i, i < N ∧ M j = D i) ∧ blk < w'.heap.size

theorem compact_zero (w : World) (oa : Option Addr) (c : Nat) : Calls Tryd.prog 38 #[.slice oa 0 c] w fun e w' => e = .returned (.slice oa 0 c) ∧ w' = w := by
  go_enter Tryd.func38, Tryd.ntmps38
  go_wp2_with fail
  go_ret
  exact ⟨rfl, rfl⟩

set_option maxHeartbeats 2000000 in
set_option maxRecDepth 10000 in
theorem compact_any (w : World) (zp : Addr) (blk N c : Nat) (D : Nat → Int × Int) (hN : N ≤ 1048576) (hc : N ≤ c) (hN0 : 0 < N) (hs : srt N D) (h0 : CI w zp blk N D w) :
    Calls Tryd.prog 38 #[.slice (some ⟨blk, 0, none⟩) N c] w fun e w' => ∃ k M, e = .returned (.slice (some ⟨blk, 0, none⟩) k c) ∧ Cpt w zp blk N D k M w' := by
  have HS := hide hs
  have H0 := hide h0
  clear hs h0
  by_cases h2 : N < 2
  · go_enter Tryd.func38, Tryd.ntmps38
    go_wp2_with fail
    go_ret
    obtain ⟨g1, g2, g3, g4⟩ := unhide H0
    exact ⟨N, D, rfl, g1, g2, Nat.le_refl _, fun i hi => absurd hi (by omega), fun i hi => ⟨i, hi, rfl⟩, fun i hi => ⟨i, hi, rfl⟩, g4⟩
  · go_enter Tryd.func38, Tryd.ntmps38
    go_wp2_with fail
    go_loopg [3] (N - 1) (fun g s3 wr => ∃ k : Nat, 1 ≤ k ∧ k ≤ N ∧ g = N - k ∧ s3 = .int .i64 k ∧ Hid (asc k D) ∧ Hid (CI w zp blk N D wr))
    case atStart => exact ⟨1, Nat.le_refl _, by omega, by omega, rfl, fun i hi => absurd hi (by omega), H0⟩
    case round =>
      obtain ⟨k, hk1, hk, hg, rfl, HA, HC⟩ := hrel
      have HG := hide hg
      clear hg
      by_cases hkN : k < N
      · obtain ⟨m, hm⟩ : ∃ m, k = m + 1 := ⟨k - 1, by omega⟩
        have ew : IntKind.i64.wrap ((k : Int) - 1) = (m : Int) := by rw [IntKind.wrap_i64]; omega
        have hm0 : (0 : Int) ≤ (m : Int) := by omega
        have hm1 : (m : Int) < (N : Int) := by omega
        have hm2 : m < N := by omega
        obtain ⟨x0, x1, x2, x3, x4, x5⟩ := (unhide HC).cells k (k * 6) hkN rfl
        obtain ⟨y0, y1, y2, y3, y4, y5⟩ := (unhide HC).cells m (m * 6) hm2 rfl
        have x0' := fun n : Nat => (show (wr.drewN n).cell? _ = _ from x0)
        have x1' := fun n : Nat => (show (wr.drewN n).cell? _ = _ from x1)
        have x2' := fun n : Nat => (show (wr.drewN n).cell? _ = _ from x2)
        have x3' := fun n : Nat => (show (wr.drewN n).cell? _ = _ from x3)
        have x4' := fun n : Nat => (show (wr.drewN n).cell? _ = _ from x4)
        have x5' := fun n : Nat => (show (wr.drewN n).cell? _ = _ from x5)
        have y0' := fun n : Nat => (show (wr.drewN n).cell? _ = _ from y0)
        have y1' := fun n : Nat => (show (wr.drewN n).cell? _ = _ from y1)
        have y2' := fun n : Nat => (show (wr.drewN n).cell? _ = _ from y2)
        have y3' := fun n : Nat => (show (wr.drewN n).cell? _ = _ from y3)
        have y4' := fun n : Nat => (show (wr.drewN n).cell? _ = _ from y4)
        have y5' := fun n : Nat => (show (wr.drewN n).cell? _ = _ from y5)
        clear x0 x1 x2 x3 x4 x5 y0 y1 y2 y3 y4 y5
        by_cases hdup : D k = D m
        · have q := e49 (281470681743360 + (D k).1) (281470681743360 + (D m).1) (281470681743360 + (D k).2) (281470681743360 + (D m).2) zp true (by rw [hdup]; simp)
          have HD := hide hdup
          clear hdup
          have HM := hide hm
          clear hm
          go_wp2_with fail
          go_quiet (fail)
          clear x0' x1' x2' x3' x4' x5' y0' y1' y2' y3' y4' y5' q
          obtain ⟨oS, sS, hoS⟩ := sl_lo blk 0 N c k ↑k rfl (by omega)
          rw [Nat.zero_add] at hoS
          obtain rfl := hoS (by omega)
          clear hoS
          have HC0 : Hid (CI w zp blk N D (wr.drewN nq)) := (unhide HC).drewN nq
          generalize wr.drewN nq = wq at *
          clear HC
          obtain ⟨L, hL⟩ : ∃ L, N = k + L := ⟨N - k, by omega⟩
          rw [show N - k = L by omega] at sS
          have DK : Hid (Ded D (k + 1) k D) := (Ded.start hk1 (unhide HA)).keep (by rw [show k - 1 = m by have := unhide HM; omega]; exact unhide HD)
          clear HA HG ew hm0 hm1 hm2 HM HD
          go_wp2_with fail
          go_loopg [3, 5] (L - 1) (fun g s3 s5 wr => ∃ (kk k2 : Nat) (M : Nat → Int × Int), s3 = .int .i64 kk ∧ s5 = .int .i64 k2 ∧ 1 ≤ k2 ∧ k2 ≤ L ∧ g = L - k2 ∧ k ≤ kk ∧ kk + 1 ≤ k + k2 ∧ Hid (CI w zp blk N M wr) ∧ Hid (∀ t, k + k2 - 1 ≤ t → t < N → M t = D t) ∧ Hid (Ded D (k + k2) kk M))
          case atStart => exact ⟨k, 1, D, rfl, rfl, Nat.le_refl _, by omega, by omega, Nat.le_refl _, by omega, HC0, fun _ _ _ => rfl, DK⟩
          case round =>
            clear HC0 DK
            obtain ⟨kk, k2, M, rfl, rfl, h1, h2', hg, h3, h4, HC, HT, DE⟩ := hrel
            have HG := hide hg
            clear hg
            by_cases hk2 : k2 < L
            · obtain ⟨m, hm⟩ : ∃ m, k2 = m + 1 := ⟨k2 - 1, by omega⟩
              have ew : IntKind.i64.wrap ((k2 : Int) - 1) = (m : Int) := by rw [IntKind.wrap_i64]; omega
              have ew2 : IntKind.i64.wrap ((kk : Int) + 1) = (kk : Int) + 1 := by rw [IntKind.wrap_i64]; omega
              have hm0 : (0 : Int) ≤ (m : Int) := by omega
              have hm1 : (m : Int) < (L : Int) := by omega
              have hm2 : m < L := by omega
              have hkk : kk < N := by omega
              have ex : M (k + k2) = D (k + k2) := unhide HT (k + k2) (by omega) (by omega)
              have ey : M (k + m) = D (k + m) := unhide HT (k + m) (by omega) (by omega)
              obtain ⟨x0, x1, x2, x3, x4, x5⟩ := (unhide HC).cells (k + k2) (k * 6 + k2 * 6) (by omega) (by omega)
              have x0' := fun n : Nat => (show (wr.drewN n).cell? _ = _ from x0)
              have x1' := fun n : Nat => (show (wr.drewN n).cell? _ = _ from x1)
              have x2' := fun n : Nat => (show (wr.drewN n).cell? _ = _ from x2)
              have x3' := fun n : Nat => (show (wr.drewN n).cell? _ = _ from x3)
              have x4' := fun n : Nat => (show (wr.drewN n).cell? _ = _ from x4)
              have x5' := fun n : Nat => (show (wr.drewN n).cell? _ = _ from x5)
              clear x0 x1 x2 x3 x4 x5
              obtain ⟨y0, y1, y2, y3, y4, y5⟩ := (unhide HC).cells (k + m) (k * 6 + m * 6) (by omega) (by omega)
              have y0' := fun n : Nat => (show (wr.drewN n).cell? _ = _ from y0)
              have y1' := fun n : Nat => (show (wr.drewN n).cell? _ = _ from y1)
              have y2' := fun n : Nat => (show (wr.drewN n).cell? _ = _ from y2)
              have y3' := fun n : Nat => (show (wr.drewN n).cell? _ = _ from y3)
              have y4' := fun n : Nat => (show (wr.drewN n).cell? _ = _ from y4)
              have y5' := fun n : Nat => (show (wr.drewN n).cell? _ = _ from y5)
              clear y0 y1 y2 y3 y4 y5
              rw [ex] at x1' x4'
              rw [ey] at y1' y4'
              clear ex ey
              by_cases hdup : D (k + k2) = D (k + m)
              · have q := n49 (281470681743360 + (D (k + k2)).1) (281470681743360 + (D (k + m)).1) (281470681743360 + (D (k + k2)).2) (281470681743360 + (D (k + m)).2) zp false (by rw [hdup]; simp)
                have HD := hide hdup
                clear hdup
                have HM := hide hm
                clear hm
                go_wp2_with fail
                go_quiet (fail)
                go_wp2_with fail
                go_roundg (L - (k2 + 1))
                case measure => rw [unhide HG]; omega
                case rel => exact ⟨kk, k2 + 1, M, rfl, rfl, by omega, by omega, rfl, h3, by omega, (unhide HC).drewN nq, fun t h h' => unhide HT t (by omega) h', (unhide DE).keep (by rw [show k + k2 - 1 = k + m by have := unhide HM; omega]; exact unhide HD)⟩
              · have q := n49 (281470681743360 + (D (k + k2)).1) (281470681743360 + (D (k + m)).1) (281470681743360 + (D (k + k2)).2) (281470681743360 + (D (k + m)).2) zp true (by
                  have : ¬ (281470681743360 + (D (k + k2)).1 = 281470681743360 + (D (k + m)).1 ∧ 281470681743360 + (D (k + k2)).2 = 281470681743360 + (D (k + m)).2) := fun h => hdup (Prod.ext (by omega) (by omega))
                  rw [decide_eq_false this]; rfl)
                have HD := hide hdup
                clear hdup
                have HM := hide hm
                clear hm
                obtain ⟨z0, z1, z2, z3, z4, z5⟩ := (unhide HC).cells kk (kk * 6) hkk rfl
                obtain ⟨f0, f1, f2, f3, f4, f5⟩ := (unhide HC).froz kk hkk
                have z0' := fun n : Nat => (show (wr.drewN n).cell? _ = _ from z0)
                have f0' := fun n : Nat => (show (wr.drewN n).frozen? _ = _ from f0)
                have z1' := fun n : Nat => (show (wr.drewN n).cell? _ = _ from z1)
                have f1' := fun n : Nat => (show (wr.drewN n).frozen? _ = _ from f1)
                have z2' := fun n : Nat => (show (wr.drewN n).cell? _ = _ from z2)
                have f2' := fun n : Nat => (show (wr.drewN n).frozen? _ = _ from f2)
                have z3' := fun n : Nat => (show (wr.drewN n).cell? _ = _ from z3)
                have f3' := fun n : Nat => (show (wr.drewN n).frozen? _ = _ from f3)
                have z4' := fun n : Nat => (show (wr.drewN n).cell? _ = _ from z4)
                have f4' := fun n : Nat => (show (wr.drewN n).frozen? _ = _ from f4)
                have z5' := fun n : Nat => (show (wr.drewN n).cell? _ = _ from z5)
                have f5' := fun n : Nat => (show (wr.drewN n).frozen? _ = _ from f5)
                clear z0 z1 z2 z3 z4 z5 f0 f1 f2 f3 f4 f5
                go_wp2_with fail
                go_quiet (fail)
                go_wp2_with fail
                rw [chain6]
                go_roundg (L - (k2 + 1))
                case measure => rw [unhide HG]; omega
                case rel => exact ⟨kk + 1, k2 + 1, fun t => if t = kk then D (k + k2) else M t, rfl, rfl, by omega, by omega, rfl, by omega, by omega, ((unhide HC).drewN nq).put kk hkk _, fun t h h' => by
                  show (if t = kk then D (k + k2) else M t) = D t
                  rw [if_neg (by omega)]; exact unhide HT t (by omega) h', (unhide DE).add (unhide HS) (by omega) (by rw [show k + k2 - 1 = k + m by have := unhide HM; omega]; exact unhide HD)⟩
            · obtain rfl : k2 = L := by omega
              obtain ⟨oT, sT, hoT⟩ := sl_lo blk 0 N c kk ↑kk rfl (by omega)
              rw [Nat.zero_add] at hoT
              obtain rfl := hoT (by omega)
              have sH := sl_hi blk 0 N c kk ↑kk rfl (by omega)
              obtain ⟨g1, g2, g3, g4⟩ := unhide HC
              have hcl := run_clear6 wr blk (kk * 6) (N - kk) (c - kk) (by omega) (fun j hj => by
                have := (g3 (kk * 6 + j) (by omega)).1
                rw [Nat.zero_add] at this; exact this) (fun j hj => by
                have := (g3 (kk * 6 + j) (by omega)).2
                rw [Nat.zero_add] at this; exact this)
              have hres : Hid (Cpt w zp blk N D kk M (wr.setCells blk (kk * 6) (Builtin.zeroCells zero6 (N - kk)).toList)) := by
                obtain ⟨p1, p2, p3, p4, p5, p6⟩ := unhide DE
                rw [← hL] at p5 p6
                refine ⟨below_setCells _ (Nat.le_refl _) _ _ g1, fun i hi j hj => ?_, by omega, p3, p5, p6, by rw [size_setCells]; exact g4⟩
                rw [World.cell?_setCells_out blk _ _ _ _ (fun _ _ => Or.inl (by show 0 + i * 6 + j < kk * 6; omega))]
                exact g2 i (by omega) j hj
              clear g1 g2 g3 g4 hoT
              generalize (Builtin.zeroCells zero6 (N - kk)).toList = zl at *
              clear hL
              go_wp2_with fail
              go_ret
              exact ⟨kk, M, rfl, unhide hres⟩
        · have q := e49 (281470681743360 + (D k).1) (281470681743360 + (D m).1) (281470681743360 + (D k).2) (281470681743360 + (D m).2) zp false (by
            have : ¬ (281470681743360 + (D k).1 = 281470681743360 + (D m).1 ∧ 281470681743360 + (D k).2 = 281470681743360 + (D m).2) := fun h => hdup (Prod.ext (by omega) (by omega))
            rw [decide_eq_false this])
          have HD := hide hdup
          clear hdup
          have HM := hide hm
          clear hm
          go_wp2_with fail
          go_quiet (fail)
          go_wp2_with fail
          go_roundg (N - (k + 1))
          case measure => rw [unhide HG]; omega
          case rel => exact ⟨k + 1, by omega, by omega, rfl, rfl, by
            have hadd := ((Ded.start hk1 (unhide HA)).add (unhide HS) hkN (by rw [show k - 1 = m by have := unhide HM; omega]; exact unhide HD)).2.2.1
            intro i hi
            have := hadd i hi
            by_cases c1 : i + 1 = k
            · have e2 : ¬ i = k := by omega
              simpa [c1, e2] using this
            · have e2 : ¬ i = k := by omega
              simpa [c1, e2] using this, (unhide HC).drewN nq⟩
      · obtain rfl : k = N := by omega
        go_wp2_with fail
        go_ret
        obtain ⟨g1, g2, g3, g4⟩ := unhide HC
        exact ⟨k, D, rfl, g1, g2, Nat.le_refl _, unhide HA, fun i hi => ⟨i, hi, rfl⟩, fun i hi => ⟨i, hi, rfl⟩, g4⟩
end Go.Proofs.Qxb6609544aDoor
