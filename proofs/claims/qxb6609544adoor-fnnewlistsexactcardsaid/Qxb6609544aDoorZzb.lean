import Derived.Test.Qxb6609544aDoorOk
namespace Go.Proofs.Qxb6609544aDoor
open Go.RowKit Go.Sort

set_option maxHeartbeats 2000000 in
set_option maxRecDepth 10000 in
theorem zzBytes_any (oa ob : Option Addr) (N M c d : Nat) (w : World) (hN : N ≤ 9223372036854775807) (hM : M ≤ 9223372036854775807) :
    Calls Tryd.prog 7 #[.slice oa N c, .slice ob M d] w fun e w' => RetB e ∧ w' = w := by
  go_enter Tryd.func7, Tryd.ntmps7
  by_cases c1 : 1048576 < N
  · go_wp2_with fail
    go_ret
    exact ⟨⟨_, rfl⟩, rfl⟩
  go_wp2_with fail
  go_loopg [5, 6] N (fun g tv iv w' => ∃ (t : Int) (i : Nat), g = N - i ∧ i ≤ N ∧ tv = .int .i64 t ∧ iv = .int .i64 i ∧ 0 ≤ t ∧ t ≤ 1048576 ∧ w' = w)
  case atStart => exact ⟨N, 0, rfl, by omega, rfl, rfl, by omega, by omega, rfl⟩
  case round =>
    obtain ⟨t, i, hg, hi, rfl, rfl, ht0, ht1, rfl⟩ := hrel
    have HG := hide hg
    clear hg
    by_cases hlt2 : i < N
    · by_cases c2 : (1048576 : Int) < t + 4
      · go_wp2_with fail
        go_ret
        exact ⟨⟨_, rfl⟩, rfl⟩
      · by_cases c3 : (1048576 : Int) < t + 4 + 4
        · go_wp2_with fail
          go_ret
          exact ⟨⟨_, rfl⟩, rfl⟩
        · go_wp2_with fail
          go_roundg (N - (i + 1))
          case measure => rw [unhide HG]; omega
          case rel => exact ⟨t + 4 + 4, i + 1, rfl, by omega, rfl, by go_num, by omega, by omega, rfl⟩
    · by_cases c2 : 1048576 < M
      · go_wp2_with fail
        go_ret
        exact ⟨⟨_, rfl⟩, rfl⟩
      by_cases c3 : (1048576 : Int) < t + M
      · go_wp2_with fail
        go_ret
        exact ⟨⟨_, rfl⟩, rfl⟩
      go_wp2_with fail
      go_loopg [5, 7] M (fun g tv iv w' => ∃ (t : Int) (i : Nat), g = M - i ∧ i ≤ M ∧ tv = .int .i64 t ∧ iv = .int .i64 i ∧ 0 ≤ t ∧ t ≤ 1048576 ∧ w' = wr)
      case atStart => exact ⟨t + M, 0, rfl, by omega, rfl, rfl, by omega, by omega, rfl⟩
      case round =>
        clear ht0 ht1
        obtain ⟨t, i, hg, hi, rfl, rfl, ht0, ht1, rfl⟩ := hrel
        have HG := hide hg
        clear hg
        by_cases hlt2 : i < M
        · by_cases c2 : (1048576 : Int) < t + 4
          · go_wp2_with fail
            go_ret
            exact ⟨⟨_, rfl⟩, rfl⟩
          · by_cases c3 : (1048576 : Int) < t + 4 + 4
            · go_wp2_with fail
              go_ret
              exact ⟨⟨_, rfl⟩, rfl⟩
            · go_wp2_with fail
              go_roundg (M - (i + 1))
              case measure => rw [unhide HG]; omega
              case rel => exact ⟨t + 4 + 4, i + 1, rfl, by omega, rfl, by go_num, by omega, by omega, rfl⟩
        · go_wp2_with fail
          go_ret
          exact ⟨⟨_, rfl⟩, rfl⟩
end Go.Proofs.Qxb6609544aDoor
