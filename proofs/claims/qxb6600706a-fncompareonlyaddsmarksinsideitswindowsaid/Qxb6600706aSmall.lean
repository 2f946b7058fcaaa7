import Derived.Test.Qxb6600706aCmp
import Derived.Deep.CutBlock
import Derived.Deep.DeepCutAuto
import Derived.Deep.LoopGhost
namespace Go.Proofs.Qxb6600706a
open Go.RowKit

/-- A slice of N strings. -/
def SRow (w : World) (oa : Option Addr) (N : Nat) (S : Nat → ByteArray) : Prop := 0 < N → ∃ b off, oa = some ⟨b, off, none⟩ ∧ b < w.heap.size ∧ ∀ i, i < N → w.cell? ⟨b, off + i, none⟩ = some (.string (S i))
/-- A slice of N bools. -/
def BRow (w : World) (oa : Option Addr) (N : Nat) (A : Nat → Bool) : Prop := 0 < N → ∃ b off, oa = some ⟨b, off, none⟩ ∧ b < w.heap.size ∧ ∀ i, i < N → w.cell? ⟨b, off + i, none⟩ = some (.bool (A i))

theorem SRow.below {w w' : World} {oa : Option Addr} {N : Nat} {S : Nat → ByteArray} (h : SRow w oa N S) (hb : Below w.heap.size w w') : SRow w' oa N S := fun hN => by
  obtain ⟨b, off, e, hlt, hc⟩ := h hN
  exact ⟨b, off, e, Nat.lt_of_lt_of_le hlt hb.size, fun i hi => (hb.cell (p := ⟨b, off + i, none⟩) hlt).trans (hc i hi)⟩
theorem BRow.below {w w' : World} {oa : Option Addr} {N : Nat} {A : Nat → Bool} (h : BRow w oa N A) (hb : Below w.heap.size w w') : BRow w' oa N A := fun hN => by
  obtain ⟨b, off, e, hlt, hc⟩ := h hN
  exact ⟨b, off, e, Nat.lt_of_lt_of_le hlt hb.size, fun i hi => (hb.cell (p := ⟨b, off + i, none⟩) hlt).trans (hc i hi)⟩

set_option maxHeartbeats 400000 in
theorem bytes_any (oa : Option Addr) (N c : Nat) (S : Nat → ByteArray) (w : World) (hrow : SRow w oa N S) (hN : N ≤ 9223372036854775807) (hS : ∀ i, i < N → (S i).size ≤ 9223372036854775807) :
    Calls Try.prog 10 #[.slice oa N c] w fun e w' => ∃ r : Int, e = .returned (.int .i64 r) ∧ 0 ≤ r ∧ r ≤ 1048577 ∧ w' = w := by
  by_cases h0 : N = 0
  · subst h0
    clear hrow hS
    go_enter Try.func10, Try.ntmps10
    go_wp2
    go_loopg [3, 4] 0 (fun g tv iv w' => g = 0 ∧ tv = .int .i64 0 ∧ iv = .int .i64 0 ∧ w' = w)
    case atStart => exact ⟨rfl, rfl, rfl, rfl⟩
    case round =>
      obtain ⟨rfl, rfl, rfl, rfl⟩ := hrel
      go_wp2
      go_ret
      exact ⟨0, rfl, by omega, by omega, rfl⟩
  · obtain ⟨b, off, rfl, hlt, hc⟩ := hrow (by omega)
    have HC := hide hc
    have HS := hide hS
    clear hrow hc hS
    go_enter Try.func10, Try.ntmps10
    go_wp2
    go_loopg [3, 4] N (fun g tv iv w' => ∃ (t : Int) (i : Nat), g = N - i ∧ i ≤ N ∧ tv = .int .i64 t ∧ iv = .int .i64 i ∧ 0 ≤ t ∧ t ≤ 1048576 ∧ w' = w)
    case atStart => exact ⟨0, 0, rfl, by omega, rfl, rfl, by omega, by omega, rfl⟩
    case round =>
      obtain ⟨t, i, hg, hi, rfl, rfl, ht0, ht1, rfl⟩ := hrel
      have HG := hide hg
      clear hg
      by_cases hlt2 : i < N
      · have g := unhide HC i hlt2
        have hsz := unhide HS i hlt2
        by_cases c1 : ((1048576 : Int) < ((S i).size : Int))
        · go_wp2
          go_ret
          exact ⟨1048577, rfl, by omega, by omega, rfl⟩
        · by_cases c2 : (1048576 : Int) < t + (16 + ((S i).size : Int))
          · go_wp2
            go_ret
            exact ⟨1048577, rfl, by omega, by omega, rfl⟩
          · go_wp2
            go_roundg (N - (i + 1))
            case measure => rw [unhide HG]; omega
            case rel => exact ⟨t + (16 + ((S i).size : Int)), i + 1, rfl, by omega, rfl, by go_num, by omega, by omega, rfl⟩
      · go_wp2
        go_ret
        exact ⟨t, rfl, by omega, by omega, rfl⟩

theorem info9 : (Try.prog.info? 9).map (fun i => (i.zero, i.size, i.bytes)) = some (some (.string ⟨#[]⟩), 1, 16) := by kernel_rfl
theorem info4 : (Try.prog.info? 4).map (fun i => (i.zero, i.size, i.bytes)) = some (some (.bool false), 1, 1) := by kernel_rfl


theorem makeS (N : Nat) (hN : N ≤ 10000) (w : World) : (Instr.makeSlice 22 (.int .i64 (N : Int)) (.int .i64 (N : Int))).run Try.prog w = .ok (.slice (some ⟨w.heap.size, 0, none⟩) N N) (w.alloc (.cells (madeCells #[.string ⟨#[]⟩] N) 9)) :=
  run_make_row' (P := Try.prog) 22 9 (.string ⟨#[]⟩) 16 Try.underlying22 info9 rfl .i64 .i64 N (by omega) (by omega) w

set_option maxHeartbeats 400000 in
theorem cloneS_any (oa : Option Addr) (N c : Nat) (S : Nat → ByteArray) (w : World) (hrow : SRow w oa N S) (hN : N ≤ 10000) (hnil : oa = none → N = 0) :
    Calls Try.prog 11 #[.slice oa N c] w fun e w' => ∃ o c', e = .returned (.slice o N c') ∧ (o = none → N = 0) ∧ (0 < N → o = some ⟨w.heap.size, 0, none⟩ ∧ c' = N ∧ w'.heap.size = w.heap.size + 1 ∧ (∀ i, w'.frozen? ⟨w.heap.size, i, none⟩ = false) ∧ ∀ i, i < N → w'.cell? ⟨w.heap.size, i, none⟩ = some (.string (S i))) ∧ Below w.heap.size w w' := by
  cases oa with
  | none =>
    obtain rfl := hnil rfl
    clear hrow hnil
    have hnl := fun (w : World) (a : Option Addr) (l c : Nat) => Lib.run_eql_slice_nil (P := Try.prog) w 22 9 a l c 0 0 Try.underlying22
    go_enter Try.func11, Try.ntmps11
    go_wp2
    go_ret
    exact ⟨none, 0, rfl, by simp, by simp, Below.refl _ _⟩
  | some ad =>
    have hnl := fun (w : World) (a : Option Addr) (l c : Nat) => Lib.run_eql_slice_nil (P := Try.prog) w 22 9 a l c 0 0 Try.underlying22
    have hmk := makeS N hN
    by_cases h0 : N = 0
    · subst h0
      clear hrow hnil hmk
      have hmk0 : ∀ w : World, (Instr.makeSlice 22 (.int .i64 0) (.int .i64 0)).run Try.prog w = .ok (.slice (some ⟨w.heap.size, 0, none⟩) 0 0) (w.alloc (.cells (madeCells #[.string ⟨#[]⟩] 0) 9)) := fun w => makeS 0 (by omega) w
      go_enter Try.func11, Try.ntmps11
      go_wp2
      go_loopg [4] 0 (fun g iv w' => g = 0 ∧ iv = .int .i64 0 ∧ w' = w.alloc (.cells (madeCells #[.string ⟨#[]⟩] 0) 9))
      case atStart => exact ⟨rfl, rfl, rfl⟩
      case round =>
        obtain ⟨rfl, rfl, rfl⟩ := hrel
        go_wp2
        go_ret
        exact ⟨_, _, rfl, by simp, by simp, (Below.refl _ _).alloc (Nat.le_refl _) _⟩
    · obtain ⟨b, off, e, hlt, hc⟩ := hrow (by omega)
      obtain rfl := Option.some.inj e
      have HC := hide hc
      have HB := hide hlt
      clear hrow hnil hc e hlt
      go_enter Try.func11, Try.ntmps11
      go_wp2
      clear hmk hnl
      go_loopg [4] N (fun g iv w' => ∃ i : Nat, g = N - i ∧ i ≤ N ∧ iv = .int .i64 i ∧ Hid (w'.heap.size = w.heap.size + 1 ∧ (∀ j, w'.frozen? ⟨w.heap.size, j, none⟩ = false) ∧ (∀ j, j < N → ∃ v, w'.cell? ⟨w.heap.size, j, none⟩ = some v) ∧ (∀ j, j < i → w'.cell? ⟨w.heap.size, j, none⟩ = some (.string (S j))) ∧ Below w.heap.size w w'))
      case atStart =>
        refine ⟨0, rfl, by omega, rfl, by simp, fun j => frozen_of_row _ _ j _ 9 (heap_alloc_new _ _), fun j hj => ⟨.string ⟨#[]⟩, ?_⟩, fun j hj => by omega, (Below.refl _ _).alloc (Nat.le_refl _) _⟩
        rw [cell_of_row _ _ j _ 9 (0, 0) (heap_alloc_new _ _)]
        simp [madeCells, hj, Nat.mod_one]
      case round =>
        obtain ⟨i, hg, hi, rfl, HI⟩ := hrel
        have HG := hide hg
        clear hg
        by_cases hlt2 : i < N
        · have g := ((unhide HI).2.2.2.2.cell (p := ⟨b, off + i, none⟩) (unhide HB)).trans (unhide HC i hlt2)
          obtain ⟨v0, g2⟩ := (unhide HI).2.2.1 i hlt2
          have f2 := (unhide HI).2.1 i
          go_wp2
          go_roundg (N - (i + 1))
          case measure => rw [unhide HG]; omega
          case rel =>
            obtain ⟨q1, q2, q3, q4, q5⟩ := unhide HI
            refine ⟨i + 1, rfl, by omega, by go_num, by rw [size_setCell]; exact q1, fun j => by rw [World.frozen?_setCell]; exact q2 j, fun j hj => ?_, fun j hj => ?_, q5.setCell (Nat.le_refl _) _⟩
            · obtain ⟨v1, h1⟩ := q3 j hj
              exact cell?_setCell_some h1
            · by_cases e : j = i
              · subst e
                exact World.cell?_setCell_same _ _ _ g2
              · rw [cell_far _ _ _ _ (fun q => e (by injection q with _ q2; exact q2.symm))]
                exact q4 j (by omega)
        · go_wp2
          go_ret
          obtain ⟨q1, q2, q3, q4, q5⟩ := unhide HI
          exact ⟨_, _, rfl, (fun h => by cases h), fun _ => ⟨rfl, rfl, q1, q2, fun j hj => q4 j (by omega)⟩, q5⟩

theorem makeB (N : Nat) (hN : N ≤ 10000) (w : World) : (Instr.makeSlice 30 (.int .i64 (N : Int)) (.int .i64 (N : Int))).run Try.prog w = .ok (.slice (some ⟨w.heap.size, 0, none⟩) N N) (w.alloc (.cells (madeCells #[.bool false] N) 4)) :=
  run_make_row' (P := Try.prog) 30 4 (.bool false) 1 Try.underlying30 info4 rfl .i64 .i64 N (by omega) (by omega) w

set_option maxHeartbeats 400000 in
theorem cloneB_any (oa : Option Addr) (N c : Nat) (A : Nat → Bool) (w : World) (hrow : BRow w oa N A) (hN : N ≤ 10000) (hnil : oa = none → N = 0) :
    Calls Try.prog 20 #[.slice oa N c] w fun e w' => ∃ o c', e = .returned (.slice o N c') ∧ (o = none → N = 0) ∧ (0 < N → o = some ⟨w.heap.size, 0, none⟩ ∧ c' = N ∧ w'.heap.size = w.heap.size + 1 ∧ (∀ i, w'.frozen? ⟨w.heap.size, i, none⟩ = false) ∧ ∀ i, i < N → w'.cell? ⟨w.heap.size, i, none⟩ = some (.bool (A i))) ∧ Below w.heap.size w w' := by
  cases oa with
  | none =>
    obtain rfl := hnil rfl
    clear hrow hnil
    have hnl := fun (w : World) (a : Option Addr) (l c : Nat) => Lib.run_eql_slice_nil (P := Try.prog) w 30 4 a l c 0 0 Try.underlying30
    go_enter Try.func20, Try.ntmps20
    go_wp2
    go_ret
    exact ⟨none, 0, rfl, by simp, by simp, Below.refl _ _⟩
  | some ad =>
    have hnl := fun (w : World) (a : Option Addr) (l c : Nat) => Lib.run_eql_slice_nil (P := Try.prog) w 30 4 a l c 0 0 Try.underlying30
    have hmk := makeB N hN
    by_cases h0 : N = 0
    · subst h0
      clear hrow hnil hmk
      have hmk0 : ∀ w : World, (Instr.makeSlice 30 (.int .i64 0) (.int .i64 0)).run Try.prog w = .ok (.slice (some ⟨w.heap.size, 0, none⟩) 0 0) (w.alloc (.cells (madeCells #[.bool false] 0) 4)) := fun w => makeB 0 (by omega) w
      go_enter Try.func20, Try.ntmps20
      go_wp2
      go_loopg [4] 0 (fun g iv w' => g = 0 ∧ iv = .int .i64 0 ∧ w' = w.alloc (.cells (madeCells #[.bool false] 0) 4))
      case atStart => exact ⟨rfl, rfl, rfl⟩
      case round =>
        obtain ⟨rfl, rfl, rfl⟩ := hrel
        go_wp2
        go_ret
        exact ⟨_, _, rfl, by simp, by simp, (Below.refl _ _).alloc (Nat.le_refl _) _⟩
    · obtain ⟨b, off, e, hlt, hc⟩ := hrow (by omega)
      obtain rfl := Option.some.inj e
      have HC := hide hc
      have HB := hide hlt
      clear hrow hnil hc e hlt
      go_enter Try.func20, Try.ntmps20
      go_wp2
      clear hmk hnl
      go_loopg [4] N (fun g iv w' => ∃ i : Nat, g = N - i ∧ i ≤ N ∧ iv = .int .i64 i ∧ Hid (w'.heap.size = w.heap.size + 1 ∧ (∀ j, w'.frozen? ⟨w.heap.size, j, none⟩ = false) ∧ (∀ j, j < N → ∃ v, w'.cell? ⟨w.heap.size, j, none⟩ = some v) ∧ (∀ j, j < i → w'.cell? ⟨w.heap.size, j, none⟩ = some (.bool (A j))) ∧ Below w.heap.size w w'))
      case atStart =>
        refine ⟨0, rfl, by omega, rfl, by simp, fun j => frozen_of_row _ _ j _ 4 (heap_alloc_new _ _), fun j hj => ⟨.bool false, ?_⟩, fun j hj => by omega, (Below.refl _ _).alloc (Nat.le_refl _) _⟩
        rw [cell_of_row _ _ j _ 4 (0, 0) (heap_alloc_new _ _)]
        simp [madeCells, hj, Nat.mod_one]
      case round =>
        obtain ⟨i, hg, hi, rfl, HI⟩ := hrel
        have HG := hide hg
        clear hg
        by_cases hlt2 : i < N
        · have g := ((unhide HI).2.2.2.2.cell (p := ⟨b, off + i, none⟩) (unhide HB)).trans (unhide HC i hlt2)
          obtain ⟨v0, g2⟩ := (unhide HI).2.2.1 i hlt2
          have f2 := (unhide HI).2.1 i
          go_wp2
          go_roundg (N - (i + 1))
          case measure => rw [unhide HG]; omega
          case rel =>
            obtain ⟨q1, q2, q3, q4, q5⟩ := unhide HI
            refine ⟨i + 1, rfl, by omega, by go_num, by rw [size_setCell]; exact q1, fun j => by rw [World.frozen?_setCell]; exact q2 j, fun j hj => ?_, fun j hj => ?_, q5.setCell (Nat.le_refl _) _⟩
            · obtain ⟨v1, h1⟩ := q3 j hj
              exact cell?_setCell_some h1
            · by_cases e : j = i
              · subst e
                exact World.cell?_setCell_same _ _ _ g2
              · rw [cell_far _ _ _ _ (fun q => e (by injection q with _ q2; exact q2.symm))]
                exact q4 j (by omega)
        · go_wp2
          go_ret
          obtain ⟨q1, q2, q3, q4, q5⟩ := unhide HI
          exact ⟨_, _, rfl, (fun h => by cases h), fun _ => ⟨rfl, rfl, q1, q2, fun j hj => q4 j (by omega)⟩, q5⟩
end Go.Proofs.Qxb6600706a
