import Derived.Test.Qxb6612998aFmtList
namespace Go.Proofs.Qxb6612998aFmt
open Go.RowKit Go.Sort

/-- list.insert of the element E behind a, whose next is the root. -/
def insW (w : World) (R E : Nat) (a : Addr) (len : Int) : World := ((((((w.setCell ⟨E, 1, none⟩ (.pointer (some a))).setCell ⟨E, 0, none⟩ (.pointer (some ⟨R, 4, none⟩))).setCell ⟨a.block, a.off, none⟩ (.pointer (some ⟨E, 0, none⟩))).setCell ⟨R, 5, none⟩ (.pointer (some ⟨E, 0, none⟩))).setCell ⟨E, 2, none⟩ (.pointer (some ⟨R, 4, none⟩))).setCell ⟨R, 8, none⟩ (.int .i64 len))
set_option maxHeartbeats 1000000 in
theorem insert_r (R E : Nat) (len : Int) (w : World) (u0 u1 u2 u5 : Value) (hlen : 0 ≤ len ∧ len ≤ 4611686018427387904) (hE0 : w.cell? ⟨E, 0, none⟩ = some u0) (hE1 : w.cell? ⟨E, 1, none⟩ = some u1) (hE2 : w.cell? ⟨E, 2, none⟩ = some u2)
    (ha : w.cell? ⟨R, 4, none⟩ = some (.pointer (some ⟨R, 4, none⟩))) (h5 : w.cell? ⟨R, 5, none⟩ = some u5) (h8 : w.cell? ⟨R, 8, none⟩ = some (.int .i64 len)) (hfR : ∀ j, w.frozen? ⟨R, j, none⟩ = false) (hfE : ∀ j, w.frozen? ⟨E, j, none⟩ = false) (d0 : ¬ E = R) :
    Calls Tryf.prog 64 #[.pointer (some ⟨R, 4, none⟩), .pointer (some ⟨E, 0, none⟩), .pointer (some ⟨R, 4, none⟩)] w fun e w' => e = .returned (.pointer (some ⟨E, 0, none⟩)) ∧ w' = insW w R E ⟨R, 4, none⟩ (len + 1) := by
  have d0' : ¬ R = E := fun e => d0 e.symm
  have ew : IntKind.i64.wrap (len + 1) = len + 1 := by rw [IntKind.wrap_i64]; omega
  clear hlen
  go_enter Tryf.func64, Tryf.ntmps64
  go_wp2_with fail
  go_ret
  refine ⟨rfl, ?_⟩
  unfold insW
  rfl
set_option maxHeartbeats 1000000 in
theorem insert_e (R E T : Nat) (len : Int) (w : World) (u0 u1 u2 u5 : Value) (hlen : 0 ≤ len ∧ len ≤ 4611686018427387904) (hE0 : w.cell? ⟨E, 0, none⟩ = some u0) (hE1 : w.cell? ⟨E, 1, none⟩ = some u1) (hE2 : w.cell? ⟨E, 2, none⟩ = some u2)
    (ha : w.cell? ⟨T, 0, none⟩ = some (.pointer (some ⟨R, 4, none⟩))) (h5 : w.cell? ⟨R, 5, none⟩ = some u5) (h8 : w.cell? ⟨R, 8, none⟩ = some (.int .i64 len)) (hfR : ∀ j, w.frozen? ⟨R, j, none⟩ = false) (hfE : ∀ j, w.frozen? ⟨E, j, none⟩ = false) (hfT : ∀ j, w.frozen? ⟨T, j, none⟩ = false) (d0 : ¬ E = R) (d1 : ¬ E = T) (d2 : ¬ T = R) :
    Calls Tryf.prog 64 #[.pointer (some ⟨R, 4, none⟩), .pointer (some ⟨E, 0, none⟩), .pointer (some ⟨T, 0, none⟩)] w fun e w' => e = .returned (.pointer (some ⟨E, 0, none⟩)) ∧ w' = insW w R E ⟨T, 0, none⟩ (len + 1) := by
  have d0' : ¬ R = E := fun e => d0 e.symm
  have d1' : ¬ T = E := fun e => d1 e.symm
  have d2' : ¬ R = T := fun e => d2 e.symm
  have ew : IntKind.i64.wrap (len + 1) = len + 1 := by rw [IntKind.wrap_i64]; omega
  clear hlen
  go_enter Tryf.func64, Tryf.ntmps64
  go_wp2_with fail
  go_ret
  refine ⟨rfl, ?_⟩
  unfold insW
  rfl

theorem info68 : ∃ j, Tryf.prog.info? 68 = some j := Option.isSome_iff_exists.1 (by kernel_rfl)
theorem remove31 (R E : Nat) (v : Value) (w w1 : World) (hE2 : w.cell? ⟨E, 2, none⟩ = some (.pointer (some ⟨R, 4, none⟩))) (hE3 : w1.cell? ⟨E, 3, none⟩ = some v)
    (K : Calls Tryf.prog 44 #[.pointer (some ⟨R, 4, none⟩), .pointer (some ⟨E, 0, none⟩)] w fun e w' => e = .returned (.tuple #[]) ∧ w' = w1) :
    Calls Tryf.prog 31 #[.pointer (some ⟨R, 4, none⟩), .pointer (some ⟨E, 0, none⟩)] w fun e w' => e = .returned v ∧ w' = w1 := by
  have q : ∀ W, (binOp .eql 64 (.pointer (some ⟨R, 4, none⟩)) (.pointer (some ⟨R, 4, none⟩))).run Tryf.prog W = .ok (.bool true) W := fun W => by
    obtain ⟨j, hj⟩ := info68
    exact run_eql_ptr_same W _ Tryf.underlying64 hj
  have HK := hide K
  clear K
  go_enter Tryf.func31, Tryf.ntmps31
  go_wp2_with fail
  refine Calls.mono (unhide HK) ?_
  rintro e w2 ⟨rfl, h2⟩
  obtain rfl : w1 = w2 := h2.symm
  go_wp2_with fail
  go_ret
  exact ⟨rfl, rfl⟩

set_option maxHeartbeats 1000000 in
theorem insertValue_r (R : Nat) (len : Int) (pv : Addr) (w : World) (u5 : Value) (hlen : 0 ≤ len ∧ len ≤ 4611686018427387904) (hR : R < w.heap.size) 
    (ha : w.cell? ⟨R, 4, none⟩ = some (.pointer (some ⟨R, 4, none⟩))) (h5 : w.cell? ⟨R, 5, none⟩ = some u5) (h8 : w.cell? ⟨R, 8, none⟩ = some (.int .i64 len)) (hfR : ∀ j, w.frozen? ⟨R, j, none⟩ = false) :
    Calls Tryf.prog 59 #[.pointer (some ⟨R, 4, none⟩), .iface 39 (.pointer (some pv)), .pointer (some ⟨R, 4, none⟩)] w fun e w' => e = .returned (.pointer (some ⟨w.heap.size, 0, none⟩)) ∧ w' = insW (w.alloc (.cells #[.pointer none, .pointer none, .pointer none, .iface 39 (.pointer (some pv))] 66)) R w.heap.size ⟨R, 4, none⟩ (len + 1) := by
  have K := hide (insert_r R w.heap.size len (w.alloc (.cells #[.pointer none, .pointer none, .pointer none, .iface 39 (.pointer (some pv))] 66)) (.pointer none) (.pointer none) (.pointer none) u5 hlen (by simp) (by simp) (by simp)
    ((World.cell?_alloc_lt _ _ _ hR).trans ha) ((World.cell?_alloc_lt _ _ _ hR).trans h5) ((World.cell?_alloc_lt _ _ _ hR).trans h8) (fun j => (Below.frozen ((Below.refl w.heap.size w).alloc (Nat.le_refl _) _) (p := ⟨R, j, none⟩) hR).trans (hfR j)) (fun j => by simp) (by omega))
  clear ha h5 h8 hfR hlen
  go_enter Tryf.func59, Tryf.ntmps59
  go_wp2_with fail
  refine Calls.mono (unhide K) ?_
  rintro e w1 ⟨rfl, h1⟩
  replace h1 := hide h1
  go_wp2_with fail
  go_ret
  exact ⟨rfl, unhide h1⟩
set_option maxHeartbeats 1000000 in
theorem insertValue_e (R T : Nat) (len : Int) (pv : Addr) (w : World) (u5 : Value) (hlen : 0 ≤ len ∧ len ≤ 4611686018427387904) (hR : R < w.heap.size) (hT : T < w.heap.size) (d : ¬ T = R) 
    (ha : w.cell? ⟨T, 0, none⟩ = some (.pointer (some ⟨R, 4, none⟩))) (h5 : w.cell? ⟨R, 5, none⟩ = some u5) (h8 : w.cell? ⟨R, 8, none⟩ = some (.int .i64 len)) (hfR : ∀ j, w.frozen? ⟨R, j, none⟩ = false) (hfT : ∀ j, w.frozen? ⟨T, j, none⟩ = false) :
    Calls Tryf.prog 59 #[.pointer (some ⟨R, 4, none⟩), .iface 39 (.pointer (some pv)), .pointer (some ⟨T, 0, none⟩)] w fun e w' => e = .returned (.pointer (some ⟨w.heap.size, 0, none⟩)) ∧ w' = insW (w.alloc (.cells #[.pointer none, .pointer none, .pointer none, .iface 39 (.pointer (some pv))] 66)) R w.heap.size ⟨T, 0, none⟩ (len + 1) := by
  have K := hide (insert_e R w.heap.size T len (w.alloc (.cells #[.pointer none, .pointer none, .pointer none, .iface 39 (.pointer (some pv))] 66)) (.pointer none) (.pointer none) (.pointer none) u5 hlen (by simp) (by simp) (by simp)
    ((World.cell?_alloc_lt _ _ _ hT).trans ha) ((World.cell?_alloc_lt _ _ _ hR).trans h5) ((World.cell?_alloc_lt _ _ _ hR).trans h8) (fun j => (Below.frozen ((Below.refl w.heap.size w).alloc (Nat.le_refl _) _) (p := ⟨R, j, none⟩) hR).trans (hfR j)) (fun j => by simp) (fun j => (Below.frozen ((Below.refl w.heap.size w).alloc (Nat.le_refl _) _) (p := ⟨T, j, none⟩) hT).trans (hfT j)) (by omega) (by omega) d)
  clear ha h5 h8 hfR hfT hlen
  go_enter Tryf.func59, Tryf.ntmps59
  go_wp2_with fail
  refine Calls.mono (unhide K) ?_
  rintro e w1 ⟨rfl, h1⟩
  replace h1 := hide h1
  go_wp2_with fail
  go_ret
  exact ⟨rfl, unhide h1⟩

/-- PushBack where the list was laid before. -/
theorem pushBack_any (R : Nat) (q : Addr) (a : Addr) (v : Value) (w w1 : World) (E : Addr) (h4 : w.cell? ⟨R, 4, none⟩ = some (.pointer (some q))) (h5 : w.cell? ⟨R, 5, none⟩ = some (.pointer (some a)))
    (K : Calls Tryf.prog 59 #[.pointer (some ⟨R, 4, none⟩), v, .pointer (some a)] w fun e w' => e = .returned (.pointer (some E)) ∧ w' = w1) :
    Calls Tryf.prog 47 #[.pointer (some ⟨R, 4, none⟩), v] w fun e w' => e = .returned (.pointer (some E)) ∧ w' = w1 := by
  have K1 := hide (lazy_no R q w h4)
  have HK := hide K
  clear K
  go_enter Tryf.func47, Tryf.ntmps47
  go_wp2_with fail
  refine Calls.mono (unhide K1) ?_
  rintro e w2 ⟨rfl, h2⟩
  obtain rfl : w = w2 := h2.symm
  go_wp2_with fail
  refine Calls.mono (unhide HK) ?_
  rintro e w2 ⟨rfl, h2⟩
  obtain rfl : w1 = w2 := h2.symm
  go_wp2_with fail
  go_ret
  exact ⟨rfl, rfl⟩
/-- PushBack where it was not. -/
theorem pushBack_new (R : Nat) (pv : Addr) (w : World) (u5 u8 : Value) (hR : R < w.heap.size) (h4 : w.cell? ⟨R, 4, none⟩ = some (.pointer none)) (h5 : w.cell? ⟨R, 5, none⟩ = some u5) (h8 : w.cell? ⟨R, 8, none⟩ = some u8) (hf : ∀ j, w.frozen? ⟨R, j, none⟩ = false) :
    Calls Tryf.prog 47 #[.pointer (some ⟨R, 4, none⟩), .iface 39 (.pointer (some pv))] w fun e w' => ∃ W, W = (((w.setCell ⟨R, 4, none⟩ (.pointer (some ⟨R, 4, none⟩))).setCell ⟨R, 5, none⟩ (.pointer (some ⟨R, 4, none⟩))).setCell ⟨R, 8, none⟩ (.int .i64 0)) ∧ e = .returned (.pointer (some ⟨w.heap.size, 0, none⟩)) ∧ w' = insW (W.alloc (.cells #[.pointer none, .pointer none, .pointer none, .iface 39 (.pointer (some pv))] 66)) R w.heap.size ⟨R, 4, none⟩ 1 := by
  have K1 := hide (lazy_yes R w u5 u8 h4 h5 h8 hf)
  obtain ⟨W, hW⟩ : ∃ W, W = (((w.setCell ⟨R, 4, none⟩ (.pointer (some ⟨R, 4, none⟩))).setCell ⟨R, 5, none⟩ (.pointer (some ⟨R, 4, none⟩))).setCell ⟨R, 8, none⟩ (.int .i64 0)) := ⟨_, rfl⟩
  have hs : W.heap.size = w.heap.size := by rw [hW]; simp only [size_setCell]
  have c4 : W.cell? ⟨R, 4, none⟩ = some (.pointer (some ⟨R, 4, none⟩)) := by rw [hW]; simp [h4, go_sem]
  have c5 : W.cell? ⟨R, 5, none⟩ = some (.pointer (some ⟨R, 4, none⟩)) := by rw [hW]; simp [h5, go_sem]
  have c8 : W.cell? ⟨R, 8, none⟩ = some (.int .i64 0) := by rw [hW]; simp [h8, go_sem]
  have cf : ∀ j, W.frozen? ⟨R, j, none⟩ = false := fun j => by rw [hW]; simp only [World.frozen?_setCell]; exact hf j
  have K2 := hide (insertValue_r R 0 pv W _ (by omega) (by rw [hs]; exact hR) c4 c5 c8 cf)
  rw [hs] at K2
  rw [← hW] at K1
  have HW := hide hW
  clear hW h4 h5 h8 hf c4 c8 cf
  go_enter Tryf.func47, Tryf.ntmps47
  go_wp2_with fail
  refine Calls.mono (unhide K1) ?_
  rintro e w2 ⟨rfl, h2⟩
  obtain rfl : W = w2 := h2.symm
  go_wp2_with fail
  refine Calls.mono (unhide K2) ?_
  rintro e w2 ⟨rfl, h2⟩
  replace h2 := hide h2
  go_wp2_with fail
  go_ret
  exact ⟨W, unhide HW, rfl, unhide h2⟩
end Go.Proofs.Qxb6612998aFmt
