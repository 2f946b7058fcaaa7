import Derived.Test.Qxb6609544aDoorNet
import Derived.Deep.CutBlock
import Derived.Deep.DeepCutAuto
import Derived.Deep.LoopGhost
namespace Go.Proofs.Qxb6609544aDoor
open Go.RowKit Go.Sort

/-- cmp.Or of two numbers. -/
def orI (x y : Int) : Int := if x = 0 then y else x
set_option maxHeartbeats 400000 in
theorem new2 (w : World) (v u : Value) (t : TypeId) : (w.alloc (.cells #[v, u] t)).cell? ⟨w.heap.size, 0, none⟩ = some v ∧ (w.alloc (.cells #[v, u] t)).cell? ⟨w.heap.size, 1, none⟩ = some u := by simp
theorem or_any (x y : Int) (b : Nat) (w : World) (h0 : w.cell? ⟨b, 0, none⟩ = some (.int .i64 x)) (h1 : w.cell? ⟨b, 1, none⟩ = some (.int .i64 y)) :
    Calls Tryd.prog 49 #[.slice (some ⟨b, 0, none⟩) 2 2] w fun e w' => e = .returned (.int .i64 (orI x y)) ∧ w' = w := by
  have H0 := hide h0
  have H1 := hide h1
  clear h0 h1
  go_enter Tryd.func49, Tryd.ntmps49
  go_wp2_with fail
  go_loopg [8] 2 (fun g kv w' => ∃ k : Nat, g = 2 - k ∧ k ≤ 2 ∧ kv = .int .i64 k ∧ Hid ((0 < k → x = 0) ∧ (1 < k → y = 0)) ∧ w' = w)
  case atStart => exact ⟨0, rfl, by omega, rfl, ⟨by omega, by omega⟩, rfl⟩
  case round =>
    obtain ⟨k, hg, hk, rfl, HK, rfl⟩ := hrel
    have HG := hide hg
    clear hg
    by_cases k0 : k = 0
    · subst k0
      have g := unhide H0
      by_cases c : x = 0
      · go_wp2_with fail
        go_roundg 1
        case measure => rw [unhide HG]; omega
        case rel => exact ⟨1, rfl, by omega, rfl, ⟨fun _ => c, by omega⟩, rfl⟩
      · go_wp2_with fail
        go_ret
        exact ⟨ret_int (if_neg c).symm, rfl⟩
    · by_cases k1 : k = 1
      · subst k1
        have g := unhide H1
        have HX := hide ((unhide HK).1 (by omega))
        by_cases c : y = 0
        · go_wp2_with fail
          go_roundg 0
          case measure => rw [unhide HG]; omega
          case rel => exact ⟨2, rfl, by omega, rfl, ⟨fun _ => unhide HX, fun _ => c⟩, rfl⟩
        · go_wp2_with fail
          go_ret
          exact ⟨ret_int (if_pos (unhide HX)).symm, rfl⟩
      · obtain rfl : k = 2 := by omega
        have HX := hide ((unhide HK).1 (by omega))
        have HY := hide ((unhide HK).2 (by omega))
        go_wp2_with fail
        go_ret
        exact ⟨ret_int ((if_pos (unhide HX)).trans (unhide HY)).symm, rfl⟩

/-- An entry's six cells: the two addresses x.1, x.2 as numbers. -/
def enc6 (zp : Addr) (x : Int × Int) : List Value := [.int .u64 0, .int .u64 (281470681743360 + x.1), .pointer (some zp), .int .u64 0, .int .u64 (281470681743360 + x.2), .pointer (some zp)]
/-- Entry.compare. -/
def cmpE (x y : Int × Int) : Int := orI (cmpI x.1 y.1) (cmpI x.2 y.2)
theorem cmpI_add (k x y : Int) : cmpI (k + x) (k + y) = cmpI x y := by unfold cmpI; split <;> split <;> (try split) <;> (try split) <;> omega

theorem cells12 (w : World) (a1 a2 b1 b2 : Int) (zp : Addr) (W : World) (h : Gr ((w.alloc (.cells #[.int .u64 0, .int .u64 a1, .pointer (some zp), .int .u64 0, .int .u64 a2, .pointer (some zp)] 49)).alloc (.cells #[.int .u64 0, .int .u64 b1, .pointer (some zp), .int .u64 0, .int .u64 b2, .pointer (some zp)] 49)) W) : W.cell? ⟨w.heap.size, 0, none⟩ = some (.int .u64 0) ∧ W.cell? ⟨w.heap.size, 1, none⟩ = some (.int .u64 a1) ∧ W.cell? ⟨w.heap.size, 2, none⟩ = some (.pointer (some zp)) ∧ W.cell? ⟨w.heap.size, 3, none⟩ = some (.int .u64 0) ∧ W.cell? ⟨w.heap.size, 4, none⟩ = some (.int .u64 a2) ∧ W.cell? ⟨w.heap.size, 5, none⟩ = some (.pointer (some zp)) ∧ W.cell? ⟨w.heap.size + 1, 0, none⟩ = some (.int .u64 0) ∧ W.cell? ⟨w.heap.size + 1, 1, none⟩ = some (.int .u64 b1) ∧ W.cell? ⟨w.heap.size + 1, 2, none⟩ = some (.pointer (some zp)) ∧ W.cell? ⟨w.heap.size + 1, 3, none⟩ = some (.int .u64 0) ∧ W.cell? ⟨w.heap.size + 1, 4, none⟩ = some (.int .u64 b2) ∧ W.cell? ⟨w.heap.size + 1, 5, none⟩ = some (.pointer (some zp)) := by
  refine ⟨?_, ?_, ?_, ?_, ?_, ?_, ?_, ?_, ?_, ?_, ?_, ?_⟩ <;> (refine h.cell (by simp <;> omega) ?_; simp)

set_option maxHeartbeats 1000000 in
set_option maxRecDepth 10000 in
theorem entryCompare_any (x y : Int × Int) (zp : Addr) (w : World) (hz : Zs w zp) :
    Calls Tryd.prog 32 #[.agg (enc6 zp x).toArray, .agg (enc6 zp y).toArray] w fun e w' => e = .returned (.int .i64 (cmpE x y)) ∧ ∃ q os, w' = grow (w.drewN q) os := by
  obtain ⟨x1, x2⟩ := x
  obtain ⟨y1, y2⟩ := y
  show Calls Tryd.prog 32 #[.agg #[.int .u64 0, .int .u64 (281470681743360 + x1), .pointer (some zp), .int .u64 0, .int .u64 (281470681743360 + x2), .pointer (some zp)], .agg #[.int .u64 0, .int .u64 (281470681743360 + y1), .pointer (some zp), .int .u64 0, .int .u64 (281470681743360 + y2), .pointer (some zp)]] w _
  generalize e1 : 281470681743360 + x1 = a1
  generalize e2 : 281470681743360 + x2 = a2
  generalize e3 : 281470681743360 + y1 = b1
  generalize e4 : 281470681743360 + y2 = b2
  have HE : Hid (cmpE (x1, x2) (y1, y2) = orI (cmpI a1 b1) (cmpI a2 b2)) := by
    subst e1 e2 e3 e4
    show cmpE (x1, x2) (y1, y2) = _
    rw [cmpI_add, cmpI_add]; rfl
  clear e1 e2 e3 e4
  have HZ := hide hz
  clear hz
  go_enter Tryd.func32, Tryd.ntmps32
  go_wp2_with fail
  go_region_held3 (fun w' => w'.cell? ⟨w.heap.size, 0, none⟩ = some (.int .u64 0) ∧ w'.cell? ⟨w.heap.size, 1, none⟩ = some (.int .u64 a1) ∧ w'.cell? ⟨w.heap.size, 2, none⟩ = some (.pointer (some zp)) ∧ w'.cell? ⟨w.heap.size, 3, none⟩ = some (.int .u64 0) ∧ w'.cell? ⟨w.heap.size, 4, none⟩ = some (.int .u64 a2) ∧ w'.cell? ⟨w.heap.size, 5, none⟩ = some (.pointer (some zp)) ∧ w'.cell? ⟨w.heap.size + 1, 0, none⟩ = some (.int .u64 0) ∧ w'.cell? ⟨w.heap.size + 1, 1, none⟩ = some (.int .u64 b1) ∧ w'.cell? ⟨w.heap.size + 1, 2, none⟩ = some (.pointer (some zp)) ∧ w'.cell? ⟨w.heap.size + 1, 3, none⟩ = some (.int .u64 0) ∧ w'.cell? ⟨w.heap.size + 1, 4, none⟩ = some (.int .u64 b2) ∧ w'.cell? ⟨w.heap.size + 1, 5, none⟩ = some (.pointer (some zp)))
    (go_keep) (first | (go_at_call 50; refine (addrCompare_any _ _ zp _ ?_).mono ?_; (first | exact (((unhide HZ).alloc _).alloc _).gr (unhide HB8) | exact (((unhide HZ).alloc _).alloc _).drew); rintro e w8 ⟨rfl, HG8⟩; (first | (have HB9 := hide ((unhide HB8).trans HG8); have hc9 := cells12 w a1 a2 b1 b2 zp w8 (unhide HB9); clear HG8) | (have HB8 := hide ((Gr.refl _).drew.trans HG8); have hc8 := cells12 w a1 a2 b1 b2 zp w8 (unhide HB8); clear HG8))) | (go_at_call 49; refine (or_any (cmpI a1 b1) (cmpI a2 b2) _ _ ?_ ?_).mono ?_; exact (new2 _ _ _ _).1; exact (new2 _ _ _ _).2; rintro e w9 ⟨rfl, rfl⟩))
  go_wp2_with fail
  go_ret
  exact ⟨ret_int (unhide HE).symm, (((Gr.refl _).alloc _).alloc _).trans ((unhide HB9).alloc _)⟩

/-- The four cells of an address. -/
def arr4 (n : Int) : List Value := [.int .u8 (n / 16777216), .int .u8 (n / 65536 % 256), .int .u8 (n / 256 % 256), .int .u8 (n % 256)]
/-- A range's eight cells. -/
def enc8 (x : Int × Int) : List Value := arr4 x.1 ++ arr4 x.2
def isN (n : Int) : Prop := 0 ≤ n ∧ n < 4294967296
theorem num_bytes (n : Int) (h : isN n) : num (n / 16777216) (n / 65536 % 256) (n / 256 % 256) (n % 256) = n := by
  obtain ⟨h0, h1⟩ := h
  unfold num; omega
theorem byte_le (n : Int) (h : isN n) : (0 ≤ n / 16777216 ∧ n / 16777216 ≤ 255) ∧ (0 ≤ n / 65536 % 256 ∧ n / 65536 % 256 ≤ 255) ∧ (0 ≤ n / 256 % 256 ∧ n / 256 % 256 ≤ 255) ∧ (0 ≤ n % 256 ∧ n % 256 ≤ 255) := by
  obtain ⟨h0, h1⟩ := h
  omega
theorem from4_num (n : Int) (hn : isN n) (zp : Addr) (w : World) (hz : Zs w zp) :
    Calls Tryd.prog 33 #[.agg (arr4 n).toArray] w fun e w' => e = .returned (.agg #[.int .u64 0, .int .u64 (281470681743360 + n), .pointer (some zp)]) ∧ Gr w w' := by
  obtain ⟨⟨a0, a1⟩, ⟨b0, b1⟩, ⟨c0, c1⟩, ⟨d0, d1⟩⟩ := byte_le n hn
  have h := from4_any (n / 16777216) (n / 65536 % 256) (n / 256 % 256) (n % 256) zp w hz a0 a1 b0 b1 c0 c1 d0 d1
  rw [num_bytes n hn] at h
  exact h

theorem cells8 (w : World) (n0 n1 n2 n3 m0 m1 m2 m3 : Int) (W : World) (h : Gr (((w.alloc (.cells #[.int .u8 n0, .int .u8 n1, .int .u8 n2, .int .u8 n3] 35)).alloc (.cells #[.int .u8 m0, .int .u8 m1, .int .u8 m2, .int .u8 m3] 35)).alloc (.cells #[.int .u64 0, .int .u64 0, .pointer none, .int .u64 0, .int .u64 0, .pointer none] 49)) W) : (W.cell? ⟨w.heap.size, 0, none⟩ = some (.int .u8 n0) ∧ W.cell? ⟨w.heap.size, 1, none⟩ = some (.int .u8 n1) ∧ W.cell? ⟨w.heap.size, 2, none⟩ = some (.int .u8 n2) ∧ W.cell? ⟨w.heap.size, 3, none⟩ = some (.int .u8 n3) ∧ W.cell? ⟨w.heap.size + 1, 0, none⟩ = some (.int .u8 m0) ∧ W.cell? ⟨w.heap.size + 1, 1, none⟩ = some (.int .u8 m1) ∧ W.cell? ⟨w.heap.size + 1, 2, none⟩ = some (.int .u8 m2) ∧ W.cell? ⟨w.heap.size + 1, 3, none⟩ = some (.int .u8 m3)) ∧ (W.cell? ⟨w.heap.size + 2, 0, none⟩ = some (.int .u64 0) ∧ W.cell? ⟨w.heap.size + 2, 1, none⟩ = some (.int .u64 0) ∧ W.cell? ⟨w.heap.size + 2, 2, none⟩ = some (.pointer none) ∧ W.cell? ⟨w.heap.size + 2, 3, none⟩ = some (.int .u64 0) ∧ W.cell? ⟨w.heap.size + 2, 4, none⟩ = some (.int .u64 0) ∧ W.cell? ⟨w.heap.size + 2, 5, none⟩ = some (.pointer none) ∧ (∀ j, W.frozen? ⟨w.heap.size + 2, j, none⟩ = false)) := by
  have e1 : ((w.alloc (.cells #[.int .u8 n0, .int .u8 n1, .int .u8 n2, .int .u8 n3] 35)).alloc (.cells #[.int .u8 m0, .int .u8 m1, .int .u8 m2, .int .u8 m3] 35)).heap.size = w.heap.size + 2 := by simp
  have hB := h.below
  have c0 : ∀ j, W.cell? ⟨w.heap.size, j, none⟩ = (w.alloc (.cells #[.int .u8 n0, .int .u8 n1, .int .u8 n2, .int .u8 n3] 35)).cell? ⟨w.heap.size, j, none⟩ := fun j => by
    rw [hB.cell (by simp <;> omega), World.cell?_alloc_lt _ _ _ (by rw [e1]; show w.heap.size < _; omega), World.cell?_alloc_lt _ _ _ (by simp)]
  have c1 : ∀ j, W.cell? ⟨w.heap.size + 1, j, none⟩ = ((w.alloc (.cells #[.int .u8 n0, .int .u8 n1, .int .u8 n2, .int .u8 n3] 35)).alloc (.cells #[.int .u8 m0, .int .u8 m1, .int .u8 m2, .int .u8 m3] 35)).cell? ⟨w.heap.size + 1, j, none⟩ := fun j => by
    rw [hB.cell (by simp <;> omega), World.cell?_alloc_lt _ _ _ (by rw [e1]; show w.heap.size + 1 < _; omega)]
  have c2 : W.heap[w.heap.size + 2]? = some (.cells #[.int .u64 0, .int .u64 0, .pointer none, .int .u64 0, .int .u64 0, .pointer none] 49) := by
    rw [hB.block _ (by simp <;> omega), ← e1]
    exact heap_alloc_new _ _
  refine ⟨⟨?_, ?_, ?_, ?_, ?_, ?_, ?_, ?_⟩, ?_, ?_, ?_, ?_, ?_, ?_, fun j => frozen_of_row _ _ _ _ _ c2⟩
  · rw [c0]; simp
  · rw [c0]; simp
  · rw [c0]; simp
  · rw [c0]; simp
  · rw [c1]; simp
  · rw [c1]; simp
  · rw [c1]; simp
  · rw [c1]; simp
  all_goals (rw [cell_of_row _ _ _ _ _ _ c2]; rfl)

set_option maxHeartbeats 1000000 in
set_option maxRecDepth 10000 in
theorem entry4_any (x : Int × Int) (h1 : isN x.1) (h2 : isN x.2) (zp : Addr) (w : World) (hz : Zs w zp) :
    Calls Tryd.prog 21 #[.agg (arr4 x.1).toArray, .agg (arr4 x.2).toArray] w fun e w' => e = .returned (.agg (enc6 zp x).toArray) ∧ Below w.heap.size w w' := by
  obtain ⟨n, m⟩ := x
  have HZ := hide hz
  have BN := hide (byte_le n h1)
  have BM := hide (byte_le m h2)
  have EN := hide (num_bytes n h1)
  have EM := hide (num_bytes m h2)
  clear hz h1 h2
  simp only [arr4]
  generalize n / 16777216 = n0 at *
  generalize n / 65536 % 256 = n1 at *
  generalize n / 256 % 256 = n2 at *
  generalize n % 256 = n3 at *
  generalize m / 16777216 = m0 at *
  generalize m / 65536 % 256 = m1 at *
  generalize m / 256 % 256 = m2 at *
  generalize m % 256 = m3 at *
  have d1 : ¬ (w.heap.size = w.heap.size + 1 + 1) := by omega
  have d2 : ¬ (w.heap.size + 1 + 1 = w.heap.size) := by omega
  go_enter Tryd.func21, Tryd.ntmps21
  go_wp2_with fail
  go_region_held3 (fun w' => w'.cell? ⟨w.heap.size, 0, none⟩ = some (.int .u8 n0) ∧ w'.cell? ⟨w.heap.size, 1, none⟩ = some (.int .u8 n1) ∧ w'.cell? ⟨w.heap.size, 2, none⟩ = some (.int .u8 n2) ∧ w'.cell? ⟨w.heap.size, 3, none⟩ = some (.int .u8 n3) ∧ w'.cell? ⟨w.heap.size + 1, 0, none⟩ = some (.int .u8 m0) ∧ w'.cell? ⟨w.heap.size + 1, 1, none⟩ = some (.int .u8 m1) ∧ w'.cell? ⟨w.heap.size + 1, 2, none⟩ = some (.int .u8 m2) ∧ w'.cell? ⟨w.heap.size + 1, 3, none⟩ = some (.int .u8 m3))
    (go_keep) (first | (go_at_call 33; refine (from4_any _ _ _ _ zp _ ?_ ?_ ?_ ?_ ?_ ?_ ?_ ?_ ?_).mono ?_; (first | exact ((((unhide HZ).alloc _).alloc _).alloc _).gr (unhide HB8) | exact ((((unhide HZ).alloc _).alloc _).alloc _).drew); (first | exact (unhide BN).1.1 | exact (unhide BM).1.1); (first | exact (unhide BN).1.2 | exact (unhide BM).1.2); (first | exact (unhide BN).2.1.1 | exact (unhide BM).2.1.1); (first | exact (unhide BN).2.1.2 | exact (unhide BM).2.1.2); (first | exact (unhide BN).2.2.1.1 | exact (unhide BM).2.2.1.1); (first | exact (unhide BN).2.2.1.2 | exact (unhide BM).2.2.1.2); (first | exact (unhide BN).2.2.2.1 | exact (unhide BM).2.2.2.1); (first | exact (unhide BN).2.2.2.2 | exact (unhide BM).2.2.2.2); rintro e w8 ⟨rfl, HG8⟩; (first | (have HB9 := hide ((unhide HB8).trans HG8); have hc9 := cells8 w n0 n1 n2 n3 m0 m1 m2 m3 w8 (unhide HB9); clear HG8) | (have HB8 := hide ((Gr.refl _).drew.trans HG8); have hc8 := (cells8 w n0 n1 n2 n3 m0 m1 m2 m3 w8 (unhide HB8)).1; clear HG8))))
  go_wp2_with fail
  rw [unhide EN, unhide EM]
  have hB := ((((Below.refl w.heap.size w).alloc (Nat.le_refl _) _).alloc (by simp) _).alloc (by simp; omega) _).trans ((unhide HB9).below.mono (by simp; omega))
  have hb : w.heap.size ≤ w.heap.size + 1 + 1 := by omega
  exact bodyPost_ret (v := .agg #[.int .u64 0, .int .u64 (281470681743360 + n), .pointer (some zp), .int .u64 0, .int .u64 (281470681743360 + m), .pointer (some zp)]) (by simp [results, Tryd.results21, go_sem, hc9]) rfl ⟨rfl, (((((hB.setCell hb _).setCell hb _).setCell hb _).setCell hb _).setCell hb _).setCell hb _⟩
end Go.Proofs.Qxb6609544aDoor
