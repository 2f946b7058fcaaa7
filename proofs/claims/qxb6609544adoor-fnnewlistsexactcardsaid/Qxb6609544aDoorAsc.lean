import Derived.Test.Qxb6609544aDoorOk
namespace Go.Proofs.Qxb6609544aDoor
open Go.RowKit Go.Sort

def asc (N : Nat) (D : Nat → Int × Int) : Prop := ∀ i, i + 1 < N → cmpE (D i) (D (i + 1)) < 0

set_option maxHeartbeats 2000000 in
set_option maxRecDepth 10000 in
theorem ascending_any (oa : Option Addr) (N c : Nat) (D : Nat → Int × Int) (w : World) (hrow : R8 w oa N D) (hN : N ≤ 9223372036854775807) (hD : allN N D) (ha : asc N D) :
    Calls Tryd.prog 28 #[.slice oa N c] w fun e w' => e = .returned (.bool true) ∧ ∃ q os, w' = grow (w.drewN q) os := by
  have HD := hide hD
  have HA := hide ha
  clear hD ha
  by_cases h0 : N = 0
  · subst h0
    clear hrow HD
    go_enter Tryd.func28, Tryd.ntmps28
    go_wp2_with fail
    go_loopg [3] 0 (fun g kv w' => g = 0 ∧ kv = .int .i64 1 ∧ w' = w)
    case atStart => exact ⟨rfl, rfl, rfl⟩
    case round =>
      obtain ⟨rfl, rfl, rfl⟩ := hrel
      go_wp2_with fail
      go_ret
      exact ⟨rfl, Gr.refl _⟩
  · obtain ⟨b, off, rfl, hlt, hc⟩ := hrow (by omega)
    have HC := hide hc
    have HB := hide hlt
    clear hrow hc hlt
    go_enter Tryd.func28, Tryd.ntmps28
    go_wp2_with fail
    go_loopg [3] (N - 1) (fun g kv w' => ∃ k : Nat, g = N - k ∧ 1 ≤ k ∧ k ≤ N ∧ kv = .int .i64 k ∧ Hid (Gr w w'))
    case atStart => exact ⟨1, rfl, by omega, by omega, rfl, Gr.refl _⟩
    case round =>
      obtain ⟨k, hg, hk1, hk, rfl, HR⟩ := hrel
      have HG := hide hg
      clear hg
      by_cases hkN : k < N
      · obtain ⟨m, hm⟩ : ∃ m, k = m + 1 := ⟨k - 1, by omega⟩
        have ew : IntKind.i64.wrap ((k : Int) - 1) = (m : Int) := by rw [IntKind.wrap_i64]; omega
        have hm0 : (0 : Int) ≤ (m : Int) := by omega
        have hm1 : (m : Int) < (N : Int) := by omega
        have hm2 : m < N := by omega
        obtain ⟨a0, a1, a2, a3, c0, c1, c2, c3, he, Ha, Hc, Ea, Ec⟩ := bytes8 (D m) (unhide HD m (by omega)).1 (unhide HD m (by omega)).2
        have hcl := cells_at (unhide HB) (unhide HC m (by omega)) he (unhide HR)
        have hc0 := fun n os => (hcl n os).1
        have hc1 := fun n os => (hcl n os).2.1
        have hc2 := fun n os => (hcl n os).2.2.1
        have hc3 := fun n os => (hcl n os).2.2.2.1
        have hc4 := fun n os => (hcl n os).2.2.2.2.1
        have hc5 := fun n os => (hcl n os).2.2.2.2.2.1
        have hc6 := fun n os => (hcl n os).2.2.2.2.2.2.1
        have hc7 := fun n os => (hcl n os).2.2.2.2.2.2.2
        clear hcl he
        obtain ⟨b0, b1, b2, b3, d0, d1, d2, d3, he, Hb, Hd, Eb, Ed⟩ := bytes8 (D k) (unhide HD k hkN).1 (unhide HD k hkN).2
        have hcl := cells_at (unhide HB) (unhide HC k hkN) he (unhide HR)
        have hd0 := fun n os => (hcl n os).1
        have hd1 := fun n os => (hcl n os).2.1
        have hd2 := fun n os => (hcl n os).2.2.1
        have hd3 := fun n os => (hcl n os).2.2.2.1
        have hd4 := fun n os => (hcl n os).2.2.2.2.1
        have hd5 := fun n os => (hcl n os).2.2.2.2.2.1
        have hd6 := fun n os => (hcl n os).2.2.2.2.2.2.1
        have hd7 := fun n os => (hcl n os).2.2.2.2.2.2.2
        clear hcl he
        have K := hide fun W => cmpRange_bytes a0 a1 a2 a3 c0 c1 c2 c3 b0 b1 b2 b3 d0 d1 d2 d3 Ha Hb Hc Hd W
        have hr := unhide HA m (by omega)
        rw [← hm] at hr
        unfold cmpE at hr
        rw [← unhide Ea, ← unhide Eb, ← unhide Ec, ← unhide Ed] at hr
        generalize er : orI (cmpI (num a0 a1 a2 a3) (num b0 b1 b2 b3)) (cmpI (num c0 c1 c2 c3) (num d0 d1 d2 d3)) = r at *
        clear er
        have hmo := hmo
        have HM := hide hm
        clear hm
        go_wp2_with fail
        go_quiet_grown (first | (go_at_call 46; refine Calls.grown_of (unhide K _)))
        have HR2 := hide ((unhide HR).trans ⟨nq, osq, rfl⟩)
        go_wp2_with fail
        go_roundg (N - (k + 1))
        case measure => rw [unhide HG]; omega
        case rel => exact ⟨k + 1, rfl, by omega, by omega, by go_num, unhide HR2⟩
      · go_wp2_with fail
        go_ret
        exact ⟨rfl, unhide HR⟩
end Go.Proofs.Qxb6609544aDoor
