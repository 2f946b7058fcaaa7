import Derived.Test.Qxb6609544aDoorRng
namespace Go.Proofs.Qxb6609544aDoor
open Go.RowKit Go.Sort

/-- A slice of N ranges. -/
def R8 (w : World) (oa : Option Addr) (N : Nat) (D : Nat → Int × Int) : Prop := 0 < N → ∃ b off, oa = some ⟨b, off, none⟩ ∧ b < w.heap.size ∧ ∀ i, i < N → ∀ j, j < 8 → w.cell? ⟨b, off + i * 8 + j, none⟩ = (enc8 (D i))[j]?
def allN (N : Nat) (D : Nat → Int × Int) : Prop := ∀ i, i < N → isN (D i).1 ∧ isN (D i).2
theorem hmo : Tryd.prog.follows .mixedOrders = true := by kernel_rfl
def RetB (e : Ending) : Prop := ∃ r : Bool, e = .returned (.bool r)

theorem bytes8 (x : Int × Int) (h1 : isN x.1) (h2 : isN x.2) : ∃ a0 a1 a2 a3 c0 c1 c2 c3 : Int, enc8 x = [.int .u8 a0, .int .u8 a1, .int .u8 a2, .int .u8 a3, .int .u8 c0, .int .u8 c1, .int .u8 c2, .int .u8 c3] ∧ Hid ((0 ≤ a0 ∧ a0 ≤ 255) ∧ (0 ≤ a1 ∧ a1 ≤ 255) ∧ (0 ≤ a2 ∧ a2 ≤ 255) ∧ (0 ≤ a3 ∧ a3 ≤ 255)) ∧ Hid ((0 ≤ c0 ∧ c0 ≤ 255) ∧ (0 ≤ c1 ∧ c1 ≤ 255) ∧ (0 ≤ c2 ∧ c2 ≤ 255) ∧ (0 ≤ c3 ∧ c3 ≤ 255)) ∧ Hid (num a0 a1 a2 a3 = x.1) ∧ Hid (num c0 c1 c2 c3 = x.2) :=
  ⟨_, _, _, _, _, _, _, _, rfl, byte_le x.1 h1, byte_le x.2 h2, num_bytes x.1 h1, num_bytes x.2 h2⟩
theorem cells_at {w w' : World} {b o : Nat} {x : Int × Int} {a0 a1 a2 a3 c0 c1 c2 c3 : Int} (hb : b < w.heap.size) (hc : ∀ j, j < 8 → w.cell? ⟨b, o + j, none⟩ = (enc8 x)[j]?) (e : enc8 x = [.int .u8 a0, .int .u8 a1, .int .u8 a2, .int .u8 a3, .int .u8 c0, .int .u8 c1, .int .u8 c2, .int .u8 c3]) (hg : Gr w w') : ∀ (n : Nat) (os : Array Obj), (grow (w'.drewN n) os).cell? ⟨b, o, none⟩ = some (.int .u8 a0) ∧ (grow (w'.drewN n) os).cell? ⟨b, o + 1, none⟩ = some (.int .u8 a1) ∧ (grow (w'.drewN n) os).cell? ⟨b, o + 2, none⟩ = some (.int .u8 a2) ∧ (grow (w'.drewN n) os).cell? ⟨b, o + 3, none⟩ = some (.int .u8 a3) ∧ (grow (w'.drewN n) os).cell? ⟨b, o + 4, none⟩ = some (.int .u8 c0) ∧ (grow (w'.drewN n) os).cell? ⟨b, o + 5, none⟩ = some (.int .u8 c1) ∧ (grow (w'.drewN n) os).cell? ⟨b, o + 6, none⟩ = some (.int .u8 c2) ∧ (grow (w'.drewN n) os).cell? ⟨b, o + 7, none⟩ = some (.int .u8 c3) := by
  intro n os
  have H : ∀ j v, j < 8 → (enc8 x)[j]? = some v → (grow (w'.drewN n) os).cell? ⟨b, o + j, none⟩ = some v := fun j v hj hv => (hg.trans ⟨n, os, rfl⟩).cell hb ((hc j hj).trans hv)
  rw [e] at H
  exact ⟨H 0 _ (by omega) rfl, H 1 _ (by omega) rfl, H 2 _ (by omega) rfl, H 3 _ (by omega) rfl, H 4 _ (by omega) rfl, H 5 _ (by omega) rfl, H 6 _ (by omega) rfl, H 7 _ (by omega) rfl⟩

set_option maxHeartbeats 2000000 in
set_option maxRecDepth 10000 in
theorem rangesOK_any (oa : Option Addr) (N c : Nat) (D : Nat → Int × Int) (w : World) (hrow : R8 w oa N D) (hN : N ≤ 9223372036854775807) (hD : allN N D) :
    Calls Tryd.prog 8 #[.slice oa N c] w fun e w' => RetB e ∧ ∃ q os, w' = grow (w.drewN q) os := by
  have HD := hide hD
  clear hD
  by_cases h0 : N = 0
  · subst h0
    clear hrow HD
    go_enter Tryd.func8, Tryd.ntmps8
    go_wp2_with fail
    go_loopg [3] 0 (fun g kv w' => g = 0 ∧ kv = .int .i64 0 ∧ w' = w)
    case atStart => exact ⟨rfl, rfl, rfl⟩
    case round =>
      obtain ⟨rfl, rfl, rfl⟩ := hrel
      go_wp2_with fail
      go_ret
      exact ⟨⟨_, rfl⟩, Gr.refl _⟩
  · obtain ⟨b, off, rfl, hlt, hc⟩ := hrow (by omega)
    have HC := hide hc
    have HB := hide hlt
    clear hrow hc hlt
    go_enter Tryd.func8, Tryd.ntmps8
    go_wp2_with fail
    go_loopg [3] N (fun g kv w' => ∃ k : Nat, g = N - k ∧ k ≤ N ∧ kv = .int .i64 k ∧ Hid (Gr w w'))
    case atStart => exact ⟨0, rfl, by omega, rfl, Gr.refl _⟩
    case round =>
      obtain ⟨k, hg, hk, rfl, HR⟩ := hrel
      have HG := hide hg
      clear hg
      by_cases hkN : k < N
      · obtain ⟨a0, a1, a2, a3, c0, c1, c2, c3, he, Ha, Hc, -, -⟩ := bytes8 (D k) (unhide HD k hkN).1 (unhide HD k hkN).2
        have hcl := cells_at (unhide HB) (unhide HC k hkN) he (unhide HR)
        have hc0 := fun n os => (hcl n os).1
        have hc1 := fun n os => (hcl n os).2.1
        have hc2 := fun n os => (hcl n os).2.2.1
        have hc3 := fun n os => (hcl n os).2.2.2.1
        have hc4 := fun n os => (hcl n os).2.2.2.2.1
        have hc5 := fun n os => (hcl n os).2.2.2.2.2.1
        have hc6 := fun n os => (hcl n os).2.2.2.2.2.2.1
        have hc7 := fun n os => (hcl n os).2.2.2.2.2.2.2
        clear hcl he
        have K := hide fun W => cmp4_bytes _ _ _ _ _ _ _ _ (unhide Ha).1 (unhide Ha).2.1 (unhide Ha).2.2.1 (unhide Ha).2.2.2 (unhide Hc).1 (unhide Hc).2.1 (unhide Hc).2.2.1 (unhide Hc).2.2.2 W
        generalize er : cmpI (num a0 a1 a2 a3) (num c0 c1 c2 c3) = r at *
        clear er
        by_cases cr : 0 < r
        · go_wp2_with fail
          have hmo := hmo
          go_quiet_grown (first | (go_at_call 25; refine Calls.grown_of (unhide K _)))
          have HR2 := hide ((unhide HR).trans ⟨nq, osq, rfl⟩)
          go_wp2_with fail
          go_ret
          exact ⟨⟨_, rfl⟩, unhide HR2⟩
        · go_wp2_with fail
          have hmo := hmo
          go_quiet_grown (first | (go_at_call 25; refine Calls.grown_of (unhide K _)))
          have HR2 := hide ((unhide HR).trans ⟨nq, osq, rfl⟩)
          go_wp2_with fail
          go_roundg (N - (k + 1))
          case measure => rw [unhide HG]; omega
          case rel => exact ⟨k + 1, rfl, by omega, by go_num, unhide HR2⟩
      · go_wp2_with fail
        go_ret
        exact ⟨⟨_, rfl⟩, unhide HR⟩
end Go.Proofs.Qxb6609544aDoor
