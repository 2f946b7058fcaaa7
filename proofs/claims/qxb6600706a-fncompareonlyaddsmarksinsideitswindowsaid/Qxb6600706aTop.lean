import Derived.Test.Qxb6600706aSmall
import Derived.Deep.QuietTactic
import Derived.BigQuiet
namespace Go.Proofs.Qxb6600706a
open Go.RowKit

/-- It returned true or false. -/
def IsBool (e : Ending) : Prop := ∃ r : Bool, e = .returned (.bool r)

set_option maxHeartbeats 1000000 in
set_option maxRecDepth 100000 in
theorem zz_any (oa ob oc od : Option Addr) (N K N2 K2 c1 c2 c3 c4 : Nat) (S T : Nat → ByteArray) (a0 a1 b0 b1 : Int) (w : World) (hA : SRow w oa N S) (hB : SRow w ob K T)
    (hN : N ≤ 9223372036854775807) (hK : K ≤ 9223372036854775807) (hN2 : N2 ≤ 9223372036854775807) (hK2 : K2 ≤ 9223372036854775807) (hS : ∀ i, i < N → (S i).size ≤ 9223372036854775807) (hT : ∀ i, i < K → (T i).size ≤ 9223372036854775807) :
    Calls Try.prog 19 #[.slice oa N c1, .slice ob K c2, .slice oc N2 c3, .slice od K2 c4, .int .i64 a0, .int .i64 a1, .int .i64 b0, .int .i64 b1] w fun e w' => IsBool e ∧ w' = w := by
  have HA := hide hA
  have HB := hide hB
  have HS := hide hS
  have HT := hide hT
  clear hA hB hS hT
  by_cases q1 : (1048576 : Int) < (N : Int)
  · go_enter Try.func19, Try.ntmps19
    go_wp2
    go_ret
    exact ⟨⟨_, rfl⟩, rfl⟩
  · go_enter Try.func19, Try.ntmps19
    go_upto_block 0 with fail
    go_cut [17] (fun tv w' => ∃ t : Int, tv = .int .i64 t ∧ 0 ≤ t ∧ t ≤ 1048576 ∧ w' = w)
    case first =>
      go_wp2
      go_loopg [17, 18] N (fun g tv iv w' => ∃ (t : Int) (i : Nat), g = N - i ∧ i ≤ N ∧ tv = .int .i64 t ∧ iv = .int .i64 i ∧ 0 ≤ t ∧ t ≤ 1048576 ∧ w' = w)
      case atStart => exact ⟨N, 0, rfl, by omega, rfl, rfl, by omega, by omega, rfl⟩
      case round =>
        obtain ⟨t, i, hg, hi, rfl, rfl, ht0, ht1, rfl⟩ := hrel
        have HG := hide hg
        clear hg
        by_cases hlt2 : i < N
        · obtain ⟨b, off, e, _, hc⟩ := unhide HA (by omega)
          subst e
          have g := hc i hlt2
          have hsz := unhide HS i hlt2
          clear hc
          go_wp2
          · go_ret
            exact ⟨⟨_, rfl⟩, rfl⟩
          · go_ret
            exact ⟨⟨_, rfl⟩, rfl⟩
          · go_roundg (N - (i + 1))
            case measure => rw [unhide HG]; omega
            case rel => exact ⟨t + ((S i).size : Int), i + 1, rfl, by omega, rfl, by go_num, by omega, by omega, rfl⟩
        · go_wp2
          go_meet
          case rel => exact ⟨t, rfl, ht0, ht1, rfl⟩
    case rest =>
      obtain ⟨t, rfl, ht0, ht1, rfl⟩ := hcut
      by_cases q2 : (1048576 : Int) < (K : Int)
      · go_wp2
        go_ret
        exact ⟨⟨_, rfl⟩, rfl⟩
      · by_cases q3 : (1048576 : Int) < t + (K : Int)
        · go_wp2
          go_ret
          exact ⟨⟨_, rfl⟩, rfl⟩
        · go_upto_block 2 with fail
          go_cut [17] (fun tv w' => ∃ t : Int, tv = .int .i64 t ∧ 0 ≤ t ∧ t ≤ 1048576 ∧ w' = wc)
          case first =>
            go_wp2
            go_loopg [17, 19] K (fun g tv iv w' => ∃ (t : Int) (i : Nat), g = K - i ∧ i ≤ K ∧ tv = .int .i64 t ∧ iv = .int .i64 i ∧ 0 ≤ t ∧ t ≤ 1048576 ∧ w' = wc)
            case atStart => exact ⟨t + K, 0, rfl, by omega, rfl, rfl, by omega, by omega, rfl⟩
            case round =>
              obtain ⟨t', i, hg, hi, rfl, rfl, ht0', ht1', rfl⟩ := hrel
              have HG := hide hg
              clear hg
              by_cases hlt2 : i < K
              · obtain ⟨b, off, e, _, hc⟩ := unhide HB (by omega)
                subst e
                have g := hc i hlt2
                have hsz := unhide HT i hlt2
                clear hc
                go_wp2
                · go_ret
                  exact ⟨⟨_, rfl⟩, rfl⟩
                · go_ret
                  exact ⟨⟨_, rfl⟩, rfl⟩
                · go_roundg (K - (i + 1))
                  case measure => rw [unhide HG]; omega
                  case rel => exact ⟨t' + ((T i).size : Int), i + 1, rfl, by omega, rfl, by go_num, by omega, by omega, rfl⟩
              · go_wp2
                go_meet
                case rel => exact ⟨t', rfl, ht0', ht1', rfl⟩
          case rest =>
            obtain ⟨t2, rfl, hu0, hu1, rfl⟩ := hcut
            go_wp2
            all_goals (go_ret; exact ⟨⟨_, rfl⟩, rfl⟩)

set_option maxHeartbeats 1000000 in
set_option maxRecDepth 100000 in
theorem compare_none (sb : Nat) (a0 a1 b0 b1 : Int) (w : World) (h : a0 = a1 ∨ b0 = b1) (_ha0 : 0 ≤ a0) (ha1 : a0 ≤ a1) (ha2 : a1 ≤ 10000) (_hb0 : 0 ≤ b0) (hb1 : b0 ≤ b1) (hb2 : b1 ≤ 10000) :
    Calls Try.prog 30 #[.pointer (some ⟨sb, 0, none⟩), .int .i64 a0, .int .i64 a1, .int .i64 b0, .int .i64 b1] w fun e w' => e = .returned (.tuple #[]) ∧ Below w.heap.size w w' := by
  by_cases h1 : a0 = a1
  · subst h1
    have t1 : decide (a0 < a0) = false := by simp
    clear h
    go_enter Try.func30, Try.ntmps30
    go_wp2_with fail
    go_loopg [1, 3] 0 (fun g av bv w' => g = 0 ∧ av = .int .i64 a0 ∧ bv = .int .i64 b0 ∧ Below w.heap.size w w')
    case atStart => exact ⟨rfl, rfl, rfl, Below.refl _ _⟩
    case round =>
      obtain ⟨rfl, rfl, rfl, hb⟩ := hrel
      have HB := hide hb
      clear hb
      go_wp2_with fail
      go_quiet (fail)
      go_wp2_with fail
      go_loopg [2, 4] 0 (fun g av bv w' => g = 0 ∧ av = .int .i64 a0 ∧ bv = .int .i64 b1 ∧ Hid (Below w.heap.size w w'))
      case atStart => exact ⟨rfl, rfl, rfl, below_drewN (unhide HB) _⟩
      case round =>
        obtain ⟨rfl, rfl, rfl, HB2⟩ := hrel
        clear HB
        go_wp2_with fail
        go_quiet (fail)
        go_wp2_with fail
        exact bodyPost_ret (v := .tuple #[]) (by simp [results, Try.results30, go_sem]) rfl ⟨rfl, below_drewN (unhide HB2) _⟩
  · obtain rfl : b0 = b1 := by omega
    have t0 : a0 < a1 := by omega
    have t1 : decide (b0 < b0) = false := by simp
    have t2 : (a0 == a1) = false := by simpa using h1
    clear h h1
    go_enter Try.func30, Try.ntmps30
    go_wp2_with fail
    go_loopg [1, 3] 0 (fun g av bv w' => g = 0 ∧ av = .int .i64 a0 ∧ bv = .int .i64 b0 ∧ Hid (Below w.heap.size w w'))
    case atStart => exact ⟨rfl, rfl, rfl, Below.refl _ _⟩
    case round =>
      obtain ⟨rfl, rfl, rfl, HB⟩ := hrel
      go_wp2_with fail
      go_quiet (fail)
      go_wp2_with fail
      go_loopg [2, 4] 0 (fun g av bv w' => g = 0 ∧ av = .int .i64 a1 ∧ bv = .int .i64 b0 ∧ Hid (Below w.heap.size w w'))
      case atStart => exact ⟨rfl, rfl, rfl, below_drewN (unhide HB) _⟩
      case round =>
        obtain ⟨rfl, rfl, rfl, HB2⟩ := hrel
        clear HB
        go_wp2_with fail
        go_quiet (fail)
        go_wp2_with fail
        exact bodyPost_ret (v := .tuple #[]) (by simp [results, Try.results30, go_sem]) rfl ⟨rfl, below_drewN (unhide HB2) _⟩
end Go.Proofs.Qxb6600706a
