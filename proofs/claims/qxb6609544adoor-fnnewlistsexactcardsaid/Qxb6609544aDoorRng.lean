import Derived.Test.Qxb6609544aDoorCmp
namespace Go.Proofs.Qxb6609544aDoor
open Go.RowKit Go.Sort

theorem cells16 (w : World) (a0 a1 a2 a3 c0 c1 c2 c3 b0 b1 b2 b3 d0 d1 d2 d3 : Int) (W : World) (h : Gr ((w.alloc (.cells #[.int .u8 a0, .int .u8 a1, .int .u8 a2, .int .u8 a3, .int .u8 c0, .int .u8 c1, .int .u8 c2, .int .u8 c3] 37)).alloc (.cells #[.int .u8 b0, .int .u8 b1, .int .u8 b2, .int .u8 b3, .int .u8 d0, .int .u8 d1, .int .u8 d2, .int .u8 d3] 37)) W) : W.cell? ⟨w.heap.size, 0, none⟩ = some (.int .u8 a0) ∧ W.cell? ⟨w.heap.size, 1, none⟩ = some (.int .u8 a1) ∧ W.cell? ⟨w.heap.size, 2, none⟩ = some (.int .u8 a2) ∧ W.cell? ⟨w.heap.size, 3, none⟩ = some (.int .u8 a3) ∧ W.cell? ⟨w.heap.size, 4, none⟩ = some (.int .u8 c0) ∧ W.cell? ⟨w.heap.size, 5, none⟩ = some (.int .u8 c1) ∧ W.cell? ⟨w.heap.size, 6, none⟩ = some (.int .u8 c2) ∧ W.cell? ⟨w.heap.size, 7, none⟩ = some (.int .u8 c3) ∧ W.cell? ⟨w.heap.size + 1, 0, none⟩ = some (.int .u8 b0) ∧ W.cell? ⟨w.heap.size + 1, 1, none⟩ = some (.int .u8 b1) ∧ W.cell? ⟨w.heap.size + 1, 2, none⟩ = some (.int .u8 b2) ∧ W.cell? ⟨w.heap.size + 1, 3, none⟩ = some (.int .u8 b3) ∧ W.cell? ⟨w.heap.size + 1, 4, none⟩ = some (.int .u8 d0) ∧ W.cell? ⟨w.heap.size + 1, 5, none⟩ = some (.int .u8 d1) ∧ W.cell? ⟨w.heap.size + 1, 6, none⟩ = some (.int .u8 d2) ∧ W.cell? ⟨w.heap.size + 1, 7, none⟩ = some (.int .u8 d3) := by
  refine ⟨?_, ?_, ?_, ?_, ?_, ?_, ?_, ?_, ?_, ?_, ?_, ?_, ?_, ?_, ?_, ?_⟩ <;> (refine h.cell (by simp <;> omega) ?_; simp)

set_option maxHeartbeats 2000000 in
set_option maxRecDepth 10000 in
theorem cmpRange_bytes (a0 a1 a2 a3 c0 c1 c2 c3 b0 b1 b2 b3 d0 d1 d2 d3 : Int) (Ha : Hid ((0 ≤ a0 ∧ a0 ≤ 255) ∧ (0 ≤ a1 ∧ a1 ≤ 255) ∧ (0 ≤ a2 ∧ a2 ≤ 255) ∧ (0 ≤ a3 ∧ a3 ≤ 255))) (Hb : Hid ((0 ≤ b0 ∧ b0 ≤ 255) ∧ (0 ≤ b1 ∧ b1 ≤ 255) ∧ (0 ≤ b2 ∧ b2 ≤ 255) ∧ (0 ≤ b3 ∧ b3 ≤ 255))) (Hc : Hid ((0 ≤ c0 ∧ c0 ≤ 255) ∧ (0 ≤ c1 ∧ c1 ≤ 255) ∧ (0 ≤ c2 ∧ c2 ≤ 255) ∧ (0 ≤ c3 ∧ c3 ≤ 255))) (Hd : Hid ((0 ≤ d0 ∧ d0 ≤ 255) ∧ (0 ≤ d1 ∧ d1 ≤ 255) ∧ (0 ≤ d2 ∧ d2 ≤ 255) ∧ (0 ≤ d3 ∧ d3 ≤ 255))) (w : World) :
    Calls Tryd.prog 46 #[.agg #[.int .u8 a0, .int .u8 a1, .int .u8 a2, .int .u8 a3, .int .u8 c0, .int .u8 c1, .int .u8 c2, .int .u8 c3], .agg #[.int .u8 b0, .int .u8 b1, .int .u8 b2, .int .u8 b3, .int .u8 d0, .int .u8 d1, .int .u8 d2, .int .u8 d3]] w fun e w' => e = .returned (.int .i64 (orI (cmpI (num a0 a1 a2 a3) (num b0 b1 b2 b3)) (cmpI (num c0 c1 c2 c3) (num d0 d1 d2 d3)))) ∧ ∃ q os, w' = grow (w.drewN q) os := by
  have K1 := hide fun W => cmp4_bytes _ _ _ _ _ _ _ _ (unhide Ha).1 (unhide Ha).2.1 (unhide Ha).2.2.1 (unhide Ha).2.2.2 (unhide Hb).1 (unhide Hb).2.1 (unhide Hb).2.2.1 (unhide Hb).2.2.2 W
  have K2 := hide fun W => cmp4_bytes _ _ _ _ _ _ _ _ (unhide Hc).1 (unhide Hc).2.1 (unhide Hc).2.2.1 (unhide Hc).2.2.2 (unhide Hd).1 (unhide Hd).2.1 (unhide Hd).2.2.1 (unhide Hd).2.2.2 W
  generalize e1 : cmpI (num a0 a1 a2 a3) (num b0 b1 b2 b3) = r1 at *
  generalize e2 : cmpI (num c0 c1 c2 c3) (num d0 d1 d2 d3) = r2 at *
  clear e1 e2 Ha Hb Hc Hd
  go_enter Tryd.func46, Tryd.ntmps46
  go_wp2_with fail
  refine (unhide K1 _).mono ?_
  rintro e w8 ⟨rfl, HG8⟩
  have hc8 := cells16 w a0 a1 a2 a3 c0 c1 c2 c3 b0 b1 b2 b3 d0 d1 d2 d3 w8 HG8
  have HB8 : Hid (Gr ((w.alloc (.cells #[.int .u8 a0, .int .u8 a1, .int .u8 a2, .int .u8 a3, .int .u8 c0, .int .u8 c1, .int .u8 c2, .int .u8 c3] 37)).alloc (.cells #[.int .u8 b0, .int .u8 b1, .int .u8 b2, .int .u8 b3, .int .u8 d0, .int .u8 d1, .int .u8 d2, .int .u8 d3] 37)) w8) := HG8
  clear HG8
  by_cases c : r1 = 0
  · have HE : Hid (orI r1 r2 = r2) := if_pos c
    go_wp2_with fail
    refine (unhide K2 _).mono ?_
    rintro e w9 ⟨rfl, HG9⟩
    have HB9 := hide ((unhide HB8).trans HG9)
    clear HG9
    go_wp2_with fail
    go_ret
    exact ⟨ret_int (unhide HE).symm, (((Gr.refl _).alloc _).alloc _).trans (unhide HB9)⟩
  · have HE : Hid (orI r1 r2 = r1) := if_neg c
    go_wp2_with fail
    go_ret
    exact ⟨ret_int (unhide HE).symm, (((Gr.refl _).alloc _).alloc _).trans (unhide HB8)⟩

theorem cmpRange_any (x y : Int × Int) (hx1 : isN x.1) (hx2 : isN x.2) (hy1 : isN y.1) (hy2 : isN y.2) (w : World) :
    Calls Tryd.prog 46 #[.agg (enc8 x).toArray, .agg (enc8 y).toArray] w fun e w' => e = .returned (.int .i64 (cmpE x y)) ∧ ∃ q os, w' = grow (w.drewN q) os := by
  have h := cmpRange_bytes _ _ _ _ _ _ _ _ _ _ _ _ _ _ _ _ (byte_le x.1 hx1) (byte_le y.1 hy1) (byte_le x.2 hx2) (byte_le y.2 hy2) w
  rw [num_bytes x.1 hx1, num_bytes y.1 hy1, num_bytes x.2 hx2, num_bytes y.2 hy2] at h
  exact h
end Go.Proofs.Qxb6609544aDoor
