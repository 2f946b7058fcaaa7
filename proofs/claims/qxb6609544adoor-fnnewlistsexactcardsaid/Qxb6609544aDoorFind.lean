import Derived.Test.Qxb6609544aDoorAsc
namespace Go.Proofs.Qxb6609544aDoor
open Go.RowKit Go.Sort

/-- The strict order of entries. -/
def ltE (x y : Int × Int) : Prop := x.1 < y.1 ∨ (x.1 = y.1 ∧ x.2 < y.2)
theorem cmpE_neg {x y : Int × Int} : cmpE x y < 0 ↔ ltE x y := by
  unfold cmpE orI cmpI ltE
  split <;> split <;> (try split) <;> (try split) <;> omega
theorem cmpE_pos {x y : Int × Int} (h : ltE y x) : 0 < cmpE x y := by
  unfold ltE at h
  unfold cmpE orI cmpI
  split <;> split <;> (try split) <;> (try split) <;> omega
theorem cmpE_self (x : Int × Int) : cmpE x x = 0 := by
  unfold cmpE orI cmpI
  simp
theorem ltE_trans {x y z : Int × Int} (h1 : ltE x y) (h2 : ltE y z) : ltE x z := by unfold ltE at *; omega
theorem asc_lt {N : Nat} {D : Nat → Int × Int} (h : asc N D) : ∀ d i, i + d + 1 < N → ltE (D i) (D (i + d + 1))
  | 0, i, hi => cmpE_neg.1 (h i hi)
  | d + 1, i, hi => ltE_trans (asc_lt h d i (by omega)) (cmpE_neg.1 (h (i + d + 1) hi))
theorem asc_lt' {N : Nat} {D : Nat → Int × Int} (h : asc N D) {i j : Nat} (hij : i < j) (hj : j < N) : ltE (D i) (D j) := by
  have := asc_lt h (j - i - 1) i (by omega)
  rwa [show i + (j - i - 1) + 1 = j by omega] at this

theorem find_step {N : Nat} {D : Nat → Int × Int} (h : asc N D) {m p : Nat} (hm : m < N) (hp : p < N) : (cmpE (D m) (D p) = 0 → m = p) ∧ (cmpE (D m) (D p) < 0 → m < p) ∧ (¬ cmpE (D m) (D p) = 0 → ¬ cmpE (D m) (D p) < 0 → p < m) := by
  rcases Nat.lt_trichotomy m p with h1 | h1 | h1
  · have := cmpE_neg.2 (asc_lt' h h1 hp)
    exact ⟨fun _ => by omega, fun _ => h1, fun _ _ => by omega⟩
  · subst h1
    have := cmpE_self (D m)
    exact ⟨fun _ => rfl, fun _ => by omega, fun _ _ => by omega⟩
  · have := cmpE_pos (asc_lt' h h1 hm)
    exact ⟨fun _ => by omega, fun _ => by omega, fun _ _ => h1⟩

theorem cells_box (w : World) (b0 b1 b2 b3 d0 d1 d2 d3 : Int) (w' : World) (h : Gr (w.alloc (.cells #[.int .u8 b0, .int .u8 b1, .int .u8 b2, .int .u8 b3, .int .u8 d0, .int .u8 d1, .int .u8 d2, .int .u8 d3] 37)) w') : ∀ (n : Nat) (os : Array Obj), (grow (w'.drewN n) os).cell? ⟨w.heap.size, 0, none⟩ = some (.int .u8 b0) ∧ (grow (w'.drewN n) os).cell? ⟨w.heap.size, 1, none⟩ = some (.int .u8 b1) ∧ (grow (w'.drewN n) os).cell? ⟨w.heap.size, 2, none⟩ = some (.int .u8 b2) ∧ (grow (w'.drewN n) os).cell? ⟨w.heap.size, 3, none⟩ = some (.int .u8 b3) ∧ (grow (w'.drewN n) os).cell? ⟨w.heap.size, 4, none⟩ = some (.int .u8 d0) ∧ (grow (w'.drewN n) os).cell? ⟨w.heap.size, 5, none⟩ = some (.int .u8 d1) ∧ (grow (w'.drewN n) os).cell? ⟨w.heap.size, 6, none⟩ = some (.int .u8 d2) ∧ (grow (w'.drewN n) os).cell? ⟨w.heap.size, 7, none⟩ = some (.int .u8 d3) := by
  intro n os
  refine ⟨?_, ?_, ?_, ?_, ?_, ?_, ?_, ?_⟩ <;> (refine (h.trans ⟨n, os, rfl⟩).cell (by simp) ?_; simp)

set_option maxHeartbeats 2000000 in
set_option maxRecDepth 10000 in
theorem find_any (oa : Option Addr) (N c : Nat) (D : Nat → Int × Int) (p : Nat) (w : World) (hrow : R8 w oa N D) (hN : N ≤ 4611686018427387904) (hD : allN N D) (ha : asc N D) (hp : p < N) :
    Calls Tryd.prog 29 #[.slice oa N c, .agg (enc8 (D p)).toArray] w fun e w' => e = .returned (.int .i64 p) ∧ ∃ q os, w' = grow (w.drewN q) os := by
  have HD := hide hD
  have HA := hide ha
  have HP := hide hp
  clear hD ha
  obtain ⟨b, off, rfl, hlt, hc⟩ := hrow (by omega)
  have HC := hide hc
  have HB := hide hlt
  clear hrow hc hlt
  obtain ⟨b0, b1, b2, b3, d0, d1, d2, d3, he, Hb, Hd, Eb, Ed⟩ := bytes8 (D p) (unhide HD p hp).1 (unhide HD p hp).2
  rw [he]
  clear he hp
  go_enter Tryd.func29, Tryd.ntmps29
  go_wp2_with fail
  go_loopg [5, 6] N (fun g lv hv w' => ∃ lo hi : Nat, g = hi - lo ∧ Hid (lo ≤ p ∧ p < hi) ∧ lo < hi ∧ hi ≤ N ∧ lv = .int .i64 lo ∧ hv = .int .i64 hi ∧ Hid (Gr (w.alloc (.cells #[.int .u8 b0, .int .u8 b1, .int .u8 b2, .int .u8 b3, .int .u8 d0, .int .u8 d1, .int .u8 d2, .int .u8 d3] 37)) w'))
  case atStart => exact ⟨0, N, rfl, ⟨by omega, unhide HP⟩, by have := unhide HP; omega, by omega, rfl, rfl, Gr.refl _⟩
  case round =>
    obtain ⟨lo, hi, hg, HL, hlh, hhN, rfl, rfl, HR⟩ := hrel
    have HG := hide hg
    clear hg
    obtain ⟨m, hm⟩ : ∃ m, m = lo + (hi - lo) / 2 := ⟨_, rfl⟩
    have em : (lo : Int) + ((hi : Int) - (lo : Int)).tdiv 2 = (m : Int) := by rw [Int.tdiv_eq_ediv_of_nonneg (by omega)]; omega
    have hm1 : (m : Int) < (N : Int) := by omega
    have hm2 : m < N := by omega
    have HM := hide hm
    clear hm
    have hGw : Gr w wr := ((Gr.refl _).alloc _).trans (unhide HR)
    obtain ⟨a0, a1, a2, a3, c0, c1, c2, c3, he, Ha, Hc, Ea, Ec⟩ := bytes8 (D m) (unhide HD m hm2).1 (unhide HD m hm2).2
    have hcl := cells_at (unhide HB) (unhide HC m hm2) he hGw
    have hc0 := fun n os => (hcl n os).1
    have hc1 := fun n os => (hcl n os).2.1
    have hc2 := fun n os => (hcl n os).2.2.1
    have hc3 := fun n os => (hcl n os).2.2.2.1
    have hc4 := fun n os => (hcl n os).2.2.2.2.1
    have hc5 := fun n os => (hcl n os).2.2.2.2.2.1
    have hc6 := fun n os => (hcl n os).2.2.2.2.2.2.1
    have hc7 := fun n os => (hcl n os).2.2.2.2.2.2.2
    clear hcl he hGw
    have hcl := cells_box w b0 b1 b2 b3 d0 d1 d2 d3 wr (unhide HR)
    have hd0 := fun n os => (hcl n os).1
    have hd1 := fun n os => (hcl n os).2.1
    have hd2 := fun n os => (hcl n os).2.2.1
    have hd3 := fun n os => (hcl n os).2.2.2.1
    have hd4 := fun n os => (hcl n os).2.2.2.2.1
    have hd5 := fun n os => (hcl n os).2.2.2.2.2.1
    have hd6 := fun n os => (hcl n os).2.2.2.2.2.2.1
    have hd7 := fun n os => (hcl n os).2.2.2.2.2.2.2
    clear hcl
    have K := hide fun W => cmpRange_bytes a0 a1 a2 a3 c0 c1 c2 c3 b0 b1 b2 b3 d0 d1 d2 d3 Ha Hb Hc Hd W
    have HE : Hid (orI (cmpI (num a0 a1 a2 a3) (num b0 b1 b2 b3)) (cmpI (num c0 c1 c2 c3) (num d0 d1 d2 d3)) = cmpE (D m) (D p)) := by
      show _ = _
      rw [unhide Ea, unhide Eb, unhide Ec, unhide Ed]; rfl
    generalize orI (cmpI (num a0 a1 a2 a3) (num b0 b1 b2 b3)) (cmpI (num c0 c1 c2 c3) (num d0 d1 d2 d3)) = r at *
    have hmo := hmo
    by_cases C0 : r = 0
    · go_wp2_with fail
      go_quiet_grown (first | (go_at_call 46; refine Calls.grown_of (unhide K _)))
      have HR2 := hide ((((Gr.refl _).alloc _).trans (unhide HR)).trans ⟨nq, osq, rfl⟩)
      go_wp2_with fail
      go_ret
      refine ⟨ret_int ?_, unhide HR2⟩
      have := (find_step (unhide HA) hm2 (unhide HP)).1 ((unhide HE).symm.trans C0)
      omega
    · by_cases C1 : r < 0
      · go_wp2_with fail
        go_quiet_grown (first | (go_at_call 46; refine Calls.grown_of (unhide K _)))
        have HR2 := hide ((unhide HR).trans ⟨nq, osq, rfl⟩)
        go_wp2_with fail
        go_roundg (hi - (m + 1))
        case measure => rw [unhide HG]; have := unhide HM; omega
        case rel =>
          have hs := (find_step (unhide HA) hm2 (unhide HP)).2.1 (by rw [← unhide HE]; exact C1)
          have hl := unhide HL
          exact ⟨m + 1, hi, rfl, ⟨by omega, by omega⟩, by omega, by omega, by go_num, rfl, unhide HR2⟩
      · go_wp2_with fail
        go_quiet_grown (first | (go_at_call 46; refine Calls.grown_of (unhide K _)))
        have HR2 := hide ((unhide HR).trans ⟨nq, osq, rfl⟩)
        go_wp2_with fail
        go_roundg (m - lo)
        case measure => rw [unhide HG]; have := unhide HM; omega
        case rel =>
          have hs := (find_step (unhide HA) hm2 (unhide HP)).2.2 (fun h => C0 ((unhide HE).trans h)) (fun h => by have := unhide HE; omega)
          have hl := unhide HL
          exact ⟨lo, m, rfl, ⟨by omega, by omega⟩, by omega, by omega, rfl, rfl, unhide HR2⟩
end Go.Proofs.Qxb6609544aDoor
