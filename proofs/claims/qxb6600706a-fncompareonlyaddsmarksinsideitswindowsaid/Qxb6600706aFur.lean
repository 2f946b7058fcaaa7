import Derived.Test.Qxb6600706aRows
import Derived.Test.Qxb6600706aPlain
import Derived.WalkKit
import Derived.WalkSpells
import Derived.WalkLawsBesides
import Derived.Deep.QuietTactic
import Derived.BigQuiet
namespace Go.Proofs.Qxb6600706a
open Go.RowKit

theorem hide {p : Prop} (h : p) : Hid p := h
theorem unhide {p : Prop} (h : Hid p) : p := h.out
theorem ret_int {k : IntKind} {a b : Int} (h : a = b) : Ending.returned (.int k a) = .returned (.int k b) := by rw [h]

set_option maxHeartbeats 400000 in
theorem low_any (d m : Int) (hd : -1 ≤ d) (hd2 : d ≤ 1000000) (hm : 0 ≤ m) (hm2 : m ≤ 1000000) (w : World) :
    Calls Try.prog 32 #[.int .i64 d, .int .i64 m] w fun e w' => e = .returned (.int .i64 (low d m)) ∧ w' = w := by
  by_cases h : d ≤ m
  · have HE := hide (show low d m = -d from if_pos h)
    go_enter Try.func32, Try.ntmps32
    go_wp2
    go_ret
    exact ⟨ret_int (by rw [unhide HE]), rfl⟩
  · have HE := hide (show low d m = -m + (d - m) % 2 from if_neg h)
    go_enter Try.func32, Try.ntmps32
    go_wp2
    go_ret
    exact ⟨ret_int (by rw [unhide HE]), rfl⟩

/-- The row of n + m + 1 ints in block fb holds V, diagonal k at place k + m. -/
def Row (w : World) (fb : Nat) (n m : Nat) (V : Int → Int) : Prop := ∀ i : Nat, i < n + m + 1 → w.cell? ⟨fb, i, none⟩ = some (.int .i64 (V ((i : Int) - m)))

theorem Row.at {w : World} {fb n m : Nat} {V : Int → Int} (h : Row w fb n m V) (i k : Int) (hi : i = k + m) (h0 : 0 ≤ i) (h1 : i ≤ (n : Int) + m) : w.cell? ⟨fb, i.toNat, none⟩ = some (.int .i64 (V k)) := by
  have := h i.toNat (by omega)
  rw [show ((i.toNat : Nat) : Int) - m = k by omega] at this
  exact this

/-- What a frontier's entries are. -/
def Small (n : Nat) (V : Int → Int) : Prop := ∀ k, -1 ≤ V k ∧ V k ≤ n

set_option maxHeartbeats 1000000 in
theorem fur_any (fb c : Nat) (n m : Nat) (V : Int → Int) (d k : Int) (w : World) (hrow : Row w fb n m V) (hV : Small n V) (hn : n ≤ 10000) (hm : m ≤ 10000) (hk : Dg n m d k) (hdm : d ≤ 20000) :
    Calls Try.prog 31 #[.slice (some ⟨fb, 0, none⟩) (n + m + 1) c, .int .i64 d, .int .i64 k, .int .i64 n, .int .i64 m] w fun e w' => e = .returned (.int .i64 (furth V d k n m)) ∧ w' = w := by
  obtain ⟨k0, k1, k2, k3, k4, k5⟩ := hk
  by_cases hd0 : d = 0
  · subst hd0
    have HE := hide (show furth V 0 k n m = 0 from if_pos rfl)
    clear hrow hV
    go_enter Try.func31, Try.ntmps31
    go_wp2
    go_ret
    exact ⟨ret_int (by rw [unhide HE]), rfl⟩
  · have e0 : furth V d k n m = fur V d k n m := if_neg hd0
    have hdb : (d == 0) = false := by simpa using hd0
    have HE := hide (show fur V d k n m = if low (d - 1) (m : Int) ≤ k - 1 ∧ 0 ≤ V (k - 1) ∧ V (k - 1) < (n : Int) then max (if k + 1 ≤ min (d - 1) (n : Int) ∧ 0 ≤ V (k + 1) ∧ V (k + 1) - (k + 1) < (m : Int) then V (k + 1) else -1) (V (k - 1) + 1) else if k + 1 ≤ min (d - 1) (n : Int) ∧ 0 ≤ V (k + 1) ∧ V (k + 1) - (k + 1) < (m : Int) then V (k + 1) else -1 from rfl)
    have b1 := (hV (k + 1)).1
    have b2 := (hV (k + 1)).2
    have b3 := (hV (k - 1)).1
    have b4 := (hV (k - 1)).2
    have l1 := low_par (m := m) (d - 1) (by omega)
    have HE0 := hide e0
    clear e0
    have g1 : k + 1 ≤ min (d - 1) (n : Int) → w.cell? ⟨fb, (k + 1 + m).toNat, none⟩ = some (.int .i64 (V (k + 1))) := fun h => hrow.at (k + 1 + m) (k + 1) (by omega) (by omega) (by omega)
    have g2 : low (d - 1) (m : Int) ≤ k - 1 → w.cell? ⟨fb, (k - 1 + m).toNat, none⟩ = some (.int .i64 (V (k - 1))) := fun h => hrow.at (k - 1 + m) (k - 1) (by omega) (by omega) (by omega)
    clear hrow hV
    generalize V (k + 1) = v1 at *
    generalize V (k - 1) = v2 at *
    by_cases c1 : k + 1 ≤ min (d - 1) (n : Int)
    · by_cases c2 : low (d - 1) (m : Int) ≤ k - 1
      · have g1 := g1 c1
        have g2 := g2 c2
        go_enter Try.func31, Try.ntmps31
        go_wp2_with (go_at_call 32; refine (low_any _ _ (by omega) (by omega) (by omega) (by omega) _).mono ?_; rintro e w' ⟨rfl, rfl⟩)
        all_goals (go_ret; exact ⟨ret_int (by rw [unhide HE0, unhide HE]; split <;> split <;> omega), rfl⟩)
      · have g1 := g1 c1
        go_enter Try.func31, Try.ntmps31
        go_wp2_with (go_at_call 32; refine (low_any _ _ (by omega) (by omega) (by omega) (by omega) _).mono ?_; rintro e w' ⟨rfl, rfl⟩)
        all_goals (go_ret; exact ⟨ret_int (by rw [unhide HE0, unhide HE]; split <;> split <;> omega), rfl⟩)
    · by_cases c2 : low (d - 1) (m : Int) ≤ k - 1
      · have g2 := g2 c2
        go_enter Try.func31, Try.ntmps31
        go_wp2_with (go_at_call 32; refine (low_any _ _ (by omega) (by omega) (by omega) (by omega) _).mono ?_; rintro e w' ⟨rfl, rfl⟩)
        all_goals (go_ret; exact ⟨ret_int (by rw [unhide HE0, unhide HE]; split <;> split <;> omega), rfl⟩)
      · go_enter Try.func31, Try.ntmps31
        go_wp2_with (go_at_call 32; refine (low_any _ _ (by omega) (by omega) (by omega) (by omega) _).mono ?_; rintro e w' ⟨rfl, rfl⟩)
        all_goals (go_ret; exact ⟨ret_int (by rw [unhide HE0, unhide HE]; split <;> split <;> omega), rfl⟩)
end Go.Proofs.Qxb6600706a
