import Derived.Test.Qxb6612998aFmtKit
namespace Go.Proofs.Qxb6612998aFmt
open Go.RowKit Go.Sort

theorem front_none (R : Nat) (w : World) (h : w.cell? ⟨R, 8, none⟩ = some (.int .i64 0)) :
    Calls Tryf.prog 45 #[.pointer (some ⟨R, 4, none⟩)] w fun e w' => e = .returned (.pointer none) ∧ w' = w := by
  go_enter Tryf.func45, Tryf.ntmps45
  go_wp2_with fail
  go_ret
  exact ⟨rfl, rfl⟩
theorem front_some (R : Nat) (n : Int) (p : Option Addr) (w : World) (hn : ¬ n = 0) (h : w.cell? ⟨R, 8, none⟩ = some (.int .i64 n)) (h4 : w.cell? ⟨R, 4, none⟩ = some (.pointer p)) :
    Calls Tryf.prog 45 #[.pointer (some ⟨R, 4, none⟩)] w fun e w' => e = .returned (.pointer p) ∧ w' = w := by
  go_enter Tryf.func45, Tryf.ntmps45
  go_wp2_with fail
  go_ret
  exact ⟨rfl, rfl⟩
theorem len_any (R : Nat) (n : Int) (w : World) (h : w.cell? ⟨R, 8, none⟩ = some (.int .i64 n)) :
    Calls Tryf.prog 32 #[.pointer (some ⟨R, 4, none⟩)] w fun e w' => e = .returned (.int .i64 n) ∧ w' = w := by
  go_enter Tryf.func32, Tryf.ntmps32
  go_wp2_with fail
  go_ret
  exact ⟨rfl, rfl⟩
/-- list.Init's three stores. -/
theorem init_any (R : Nat) (w : World) (u4 u5 u8 : Value) (h4 : w.cell? ⟨R, 4, none⟩ = some u4) (h5 : w.cell? ⟨R, 5, none⟩ = some u5) (h8 : w.cell? ⟨R, 8, none⟩ = some u8) (hf : ∀ j, w.frozen? ⟨R, j, none⟩ = false) :
    Calls Tryf.prog 63 #[.pointer (some ⟨R, 4, none⟩)] w fun e w' => e = .returned (.pointer (some ⟨R, 4, none⟩)) ∧ w' = (((w.setCell ⟨R, 4, none⟩ (.pointer (some ⟨R, 4, none⟩))).setCell ⟨R, 5, none⟩ (.pointer (some ⟨R, 4, none⟩))).setCell ⟨R, 8, none⟩ (.int .i64 0)) := by
  go_enter Tryf.func63, Tryf.ntmps63
  go_wp2_with fail
  go_ret
  exact ⟨rfl, rfl⟩
theorem lazy_no (R : Nat) (a : Addr) (w : World) (h4 : w.cell? ⟨R, 4, none⟩ = some (.pointer (some a))) :
    Calls Tryf.prog 58 #[.pointer (some ⟨R, 4, none⟩)] w fun e w' => e = .returned (.tuple #[]) ∧ w' = w := by
  go_enter Tryf.func58, Tryf.ntmps58
  go_wp2_with fail
  go_end0
  exact ⟨rfl, rfl⟩
theorem lazy_yes (R : Nat) (w : World) (u5 u8 : Value) (h4 : w.cell? ⟨R, 4, none⟩ = some (.pointer none)) (h5 : w.cell? ⟨R, 5, none⟩ = some u5) (h8 : w.cell? ⟨R, 8, none⟩ = some u8) (hf : ∀ j, w.frozen? ⟨R, j, none⟩ = false) :
    Calls Tryf.prog 58 #[.pointer (some ⟨R, 4, none⟩)] w fun e w' => e = .returned (.tuple #[]) ∧ w' = (((w.setCell ⟨R, 4, none⟩ (.pointer (some ⟨R, 4, none⟩))).setCell ⟨R, 5, none⟩ (.pointer (some ⟨R, 4, none⟩))).setCell ⟨R, 8, none⟩ (.int .i64 0)) := by
  have K := hide (init_any R w _ _ _ h4 h5 h8 hf)
  go_enter Tryf.func58, Tryf.ntmps58
  go_wp2_with fail
  refine Calls.mono (unhide K) ?_
  rintro e w1 ⟨rfl, rfl⟩
  go_wp2_with fail
  go_end0
  exact ⟨rfl, rfl⟩

theorem drew_setCell (w : World) (a : Addr) (v : Value) : (w.setCell a v).drew = w.drew.setCell a v := rfl
theorem drewN_two (w : World) : w.drewN 2 = w.drew.drew := rfl
/-- list.remove. -/
def remW (w : World) (R E : Nat) (p n : Addr) (len : Int) : World := ((((((w.setCell ⟨p.block, p.off, none⟩ (.pointer (some n))).setCell ⟨n.block, n.off + 1, none⟩ (.pointer (some p))).setCell ⟨E, 0, none⟩ (.pointer none)).setCell ⟨E, 1, none⟩ (.pointer none)).setCell ⟨E, 2, none⟩ (.pointer none)).setCell ⟨R, 8, none⟩ (.int .i64 len))

set_option maxHeartbeats 1000000 in
theorem remove_rr (R E : Nat) (len : Int) (w : World) (up un ul : Value) (hlen : 1 ≤ len ∧ len ≤ 4611686018427387904) (hE0 : w.cell? ⟨E, 0, none⟩ = some (.pointer (some ⟨R, 4, none⟩))) (hE1 : w.cell? ⟨E, 1, none⟩ = some (.pointer (some ⟨R, 4, none⟩))) (hE2 : w.cell? ⟨E, 2, none⟩ = some ul)
    (hp : w.cell? ⟨R, 4, none⟩ = some up) (hn : w.cell? ⟨R, 5, none⟩ = some un) (h8 : w.cell? ⟨R, 8, none⟩ = some (.int .i64 len)) (hfR : ∀ j, w.frozen? ⟨R, j, none⟩ = false) (hfE : ∀ j, w.frozen? ⟨E, j, none⟩ = false) (d0 : ¬ E = R) :
    Calls Tryf.prog 44 #[.pointer (some ⟨R, 4, none⟩), .pointer (some ⟨E, 0, none⟩)] w fun e w' => e = .returned (.tuple #[]) ∧ w' = remW (w.drewN 2) R E ⟨R, 4, none⟩ ⟨R, 4, none⟩ (len - 1) := by
  have d0' : ¬ R = E := fun e => d0 e.symm
  have ew : IntKind.i64.wrap (len - 1) = len - 1 := by rw [IntKind.wrap_i64]; omega
  clear hlen
  go_enter Tryf.func44, Tryf.ntmps44
  go_wp2_with fail
  go_region
  go_wp2_with fail
  go_region
  go_wp2_with fail
  go_end0
  refine ⟨rfl, ?_⟩
  unfold remW
  simp only [drew_setCell, drewN_two]
set_option maxHeartbeats 1000000 in
theorem remove_re (R E N : Nat) (len : Int) (w : World) (up un ul : Value) (hlen : 1 ≤ len ∧ len ≤ 4611686018427387904) (hE0 : w.cell? ⟨E, 0, none⟩ = some (.pointer (some ⟨N, 0, none⟩))) (hE1 : w.cell? ⟨E, 1, none⟩ = some (.pointer (some ⟨R, 4, none⟩))) (hE2 : w.cell? ⟨E, 2, none⟩ = some ul)
    (hp : w.cell? ⟨R, 4, none⟩ = some up) (hn : w.cell? ⟨N, 1, none⟩ = some un) (h8 : w.cell? ⟨R, 8, none⟩ = some (.int .i64 len)) (hfR : ∀ j, w.frozen? ⟨R, j, none⟩ = false) (hfE : ∀ j, w.frozen? ⟨E, j, none⟩ = false) (hfN : ∀ j, w.frozen? ⟨N, j, none⟩ = false) (d0 : ¬ E = R) (d1 : ¬ E = N) (d2 : ¬ N = R) :
    Calls Tryf.prog 44 #[.pointer (some ⟨R, 4, none⟩), .pointer (some ⟨E, 0, none⟩)] w fun e w' => e = .returned (.tuple #[]) ∧ w' = remW (w.drewN 2) R E ⟨R, 4, none⟩ ⟨N, 0, none⟩ (len - 1) := by
  have d0' : ¬ R = E := fun e => d0 e.symm
  have d1' : ¬ N = E := fun e => d1 e.symm
  have d2' : ¬ R = N := fun e => d2 e.symm
  have ew : IntKind.i64.wrap (len - 1) = len - 1 := by rw [IntKind.wrap_i64]; omega
  clear hlen
  go_enter Tryf.func44, Tryf.ntmps44
  go_wp2_with fail
  go_region
  go_wp2_with fail
  go_region
  go_wp2_with fail
  go_end0
  refine ⟨rfl, ?_⟩
  unfold remW
  simp only [drew_setCell, drewN_two]
set_option maxHeartbeats 1000000 in
theorem remove_er (R E P : Nat) (len : Int) (w : World) (up un ul : Value) (hlen : 1 ≤ len ∧ len ≤ 4611686018427387904) (hE0 : w.cell? ⟨E, 0, none⟩ = some (.pointer (some ⟨R, 4, none⟩))) (hE1 : w.cell? ⟨E, 1, none⟩ = some (.pointer (some ⟨P, 0, none⟩))) (hE2 : w.cell? ⟨E, 2, none⟩ = some ul)
    (hp : w.cell? ⟨P, 0, none⟩ = some up) (hn : w.cell? ⟨R, 5, none⟩ = some un) (h8 : w.cell? ⟨R, 8, none⟩ = some (.int .i64 len)) (hfR : ∀ j, w.frozen? ⟨R, j, none⟩ = false) (hfE : ∀ j, w.frozen? ⟨E, j, none⟩ = false) (hfP : ∀ j, w.frozen? ⟨P, j, none⟩ = false) (d0 : ¬ E = R) (d1 : ¬ E = P) (d2 : ¬ P = R) :
    Calls Tryf.prog 44 #[.pointer (some ⟨R, 4, none⟩), .pointer (some ⟨E, 0, none⟩)] w fun e w' => e = .returned (.tuple #[]) ∧ w' = remW (w.drewN 2) R E ⟨P, 0, none⟩ ⟨R, 4, none⟩ (len - 1) := by
  have d0' : ¬ R = E := fun e => d0 e.symm
  have d1' : ¬ P = E := fun e => d1 e.symm
  have d2' : ¬ R = P := fun e => d2 e.symm
  have ew : IntKind.i64.wrap (len - 1) = len - 1 := by rw [IntKind.wrap_i64]; omega
  clear hlen
  go_enter Tryf.func44, Tryf.ntmps44
  go_wp2_with fail
  go_region
  go_wp2_with fail
  go_region
  go_wp2_with fail
  go_end0
  refine ⟨rfl, ?_⟩
  unfold remW
  simp only [drew_setCell, drewN_two]
set_option maxHeartbeats 1000000 in
theorem remove_ee (R E P N : Nat) (len : Int) (w : World) (up un ul : Value) (hlen : 1 ≤ len ∧ len ≤ 4611686018427387904) (hE0 : w.cell? ⟨E, 0, none⟩ = some (.pointer (some ⟨N, 0, none⟩))) (hE1 : w.cell? ⟨E, 1, none⟩ = some (.pointer (some ⟨P, 0, none⟩))) (hE2 : w.cell? ⟨E, 2, none⟩ = some ul)
    (hp : w.cell? ⟨P, 0, none⟩ = some up) (hn : w.cell? ⟨N, 1, none⟩ = some un) (h8 : w.cell? ⟨R, 8, none⟩ = some (.int .i64 len)) (hfR : ∀ j, w.frozen? ⟨R, j, none⟩ = false) (hfE : ∀ j, w.frozen? ⟨E, j, none⟩ = false) (hfP : ∀ j, w.frozen? ⟨P, j, none⟩ = false) (hfN : ∀ j, w.frozen? ⟨N, j, none⟩ = false) (d0 : ¬ E = R) (d1 : ¬ E = P) (d2 : ¬ P = R) (d3 : ¬ E = N) (d4 : ¬ N = R) (d5 : ¬ P = N) :
    Calls Tryf.prog 44 #[.pointer (some ⟨R, 4, none⟩), .pointer (some ⟨E, 0, none⟩)] w fun e w' => e = .returned (.tuple #[]) ∧ w' = remW (w.drewN 2) R E ⟨P, 0, none⟩ ⟨N, 0, none⟩ (len - 1) := by
  have d0' : ¬ R = E := fun e => d0 e.symm
  have d1' : ¬ P = E := fun e => d1 e.symm
  have d2' : ¬ R = P := fun e => d2 e.symm
  have d3' : ¬ N = E := fun e => d3 e.symm
  have d4' : ¬ R = N := fun e => d4 e.symm
  have d5' : ¬ N = P := fun e => d5 e.symm
  have ew : IntKind.i64.wrap (len - 1) = len - 1 := by rw [IntKind.wrap_i64]; omega
  clear hlen
  go_enter Tryf.func44, Tryf.ntmps44
  go_wp2_with fail
  go_region
  go_wp2_with fail
  go_region
  go_wp2_with fail
  go_end0
  refine ⟨rfl, ?_⟩
  unfold remW
  simp only [drew_setCell, drewN_two]
end Go.Proofs.Qxb6612998aFmt
