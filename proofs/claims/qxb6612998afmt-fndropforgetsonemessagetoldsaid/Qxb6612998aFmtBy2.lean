import Derived.Test.Qxb6612998aFmtLaw
namespace Go.Proofs.Qxb6612998aFmt
open Go.RowKit Go.Sort Go.Extern.Stop Go.Stop Go.Extern

set_option maxHeartbeats 8000000 in
set_option maxRecDepth 10000 in
theorem bytes11_any {w : World} {K0 : Nat} {oa ob : Option Addr} {n c n2 c2 : Nat} {ss ts : List Stp} (mx lt lim port seq : Int) (h : Scr w K0 (.slice oa n c) ss) (h2 : Scr w K0 (.slice ob n2 c2) ts) (hl : n ≤ 9223372036854775807) (hl2 : n2 ≤ 9223372036854775807) (hd : ∀ s ∈ ss, s.data.length ≤ 9223372036854775807) (hd2 : ∀ s ∈ ts, s.data.length ≤ 9223372036854775807) :
    Calls Tryf.prog 11 #[.int .i64 mx, .int .i64 lt, .int .i64 lim, .slice oa n c, .int .u16 port, .int .u16 seq, .slice ob n2 c2] w (BytP w) := by
  obtain ⟨rfl, hrow⟩ := h.row
  obtain ⟨rfl, hrow2⟩ := h2.row
  have HR := hide hrow
  have HD := hide hd
  have HR2 := hide hrow2
  have HD2 := hide hd2
  clear h hrow hd h2 hrow2 hd2
  by_cases c0 : (1048576 : Int) < (ss.length : Int)
  · go_enter Tryf.func11, Tryf.ntmps11
    go_wp2_with fail
    go_ret
    exact ⟨_, rfl, rfl⟩
  · have e0 : IntKind.i64.wrap (ss.length : Int) = (ss.length : Int) := by rw [IntKind.wrap_i64]; omega
    go_enter Tryf.func11, Tryf.ntmps11
    go_wp2_with fail
    go_loopg [15, 16] ss.length (fun gg sv iv w' => ∃ i : Nat, gg = ss.length - i ∧ i ≤ ss.length ∧ iv = .int .i64 (i : Int) ∧ w' = w ∧ (∃ t : Int, sv = .int .i64 t ∧ 0 ≤ t ∧ t ≤ 1048576))
    case atStart => exact ⟨0, by omega, Nat.zero_le _, rfl, rfl, _, rfl, by omega, by omega⟩
    case round =>
      obtain ⟨i, hgi, hi, rfl, rfl, t, rfl, ht0, ht1⟩ := hrel
      by_cases ci : i < ss.length
      · obtain ⟨b, off, da, dc, rfl, -, -, y5, -⟩ := unhide HR i ci
        have hdl := unhide HD _ (List.getElem_mem ci)
        generalize (ss[i]).data.length = d at *
        have z1 : (0 : Int) ≤ (i : Int) := by omega
        have z2 : (i : Int) < (ss.length : Int) := by omega
        have z3 : IntKind.i64.wrap ((i : Int) + 1) = (i : Int) + 1 := by rw [IntKind.wrap_i64]; omega
        by_cases cd : (1048576 : Int) < (d : Int)
        · go_wp2_with fail
          go_ret
          exact ⟨_, rfl, rfl⟩
        · have z5 : IntKind.i64.wrap (t + (d : Int)) = t + (d : Int) := by rw [IntKind.wrap_i64]; omega
          by_cases cs : (1048576 : Int) < t + (d : Int)
          · go_wp2_with fail
            go_ret
            exact ⟨_, rfl, rfl⟩
          · go_wp2_with fail
            go_roundg (ss.length - (i + 1))
            case measure => omega
            case rel => exact ⟨i + 1, rfl, by omega, by simp, rfl, t + (d : Int), rfl, by omega, by omega⟩
      · obtain rfl : i = ss.length := by omega
        have z2 : ¬ ((ss.length : Int) < (ss.length : Int)) := by omega
        by_cases c1 : (1048576 : Int) < (ts.length : Int)
        · go_wp2_with fail
          go_ret
          exact ⟨_, rfl, rfl⟩
        · have e1 : IntKind.i64.wrap (t + (ts.length : Int)) = t + (ts.length : Int) := by rw [IntKind.wrap_i64]; omega
          by_cases c3 : (1048576 : Int) < t + (ts.length : Int)
          · go_wp2_with fail
            go_ret
            exact ⟨_, rfl, rfl⟩
          · go_wp2_with fail
            go_loopg [15, 17] ts.length (fun gg sv iv w' => ∃ i : Nat, gg = ts.length - i ∧ i ≤ ts.length ∧ iv = .int .i64 (i : Int) ∧ w' = wr ∧ (∃ t : Int, sv = .int .i64 t ∧ 0 ≤ t ∧ t ≤ 1048576))
            case atStart => exact ⟨0, by omega, Nat.zero_le _, rfl, rfl, _, rfl, by omega, by omega⟩
            case round =>
              obtain ⟨i, hgi, hi, rfl, hww, t, rfl, ht0, ht1⟩ := hrel
              subst hww
              by_cases ci : i < ts.length
              · obtain ⟨b, off, da, dc, rfl, -, -, y5, -⟩ := unhide HR2 i ci
                have hdl := unhide HD2 _ (List.getElem_mem ci)
                generalize (ts[i]).data.length = d at *
                have z1 : (0 : Int) ≤ (i : Int) := by omega
                have z2 : (i : Int) < (ts.length : Int) := by omega
                have z3 : IntKind.i64.wrap ((i : Int) + 1) = (i : Int) + 1 := by rw [IntKind.wrap_i64]; omega
                by_cases cd : (1048576 : Int) < (d : Int)
                · go_wp2_with fail
                  go_ret
                  exact ⟨_, rfl, rfl⟩
                · have z5 : IntKind.i64.wrap (t + (d : Int)) = t + (d : Int) := by rw [IntKind.wrap_i64]; omega
                  by_cases cs : (1048576 : Int) < t + (d : Int)
                  · go_wp2_with fail
                    go_ret
                    exact ⟨_, rfl, rfl⟩
                  · go_wp2_with fail
                    go_roundg (ts.length - (i + 1))
                    case measure => omega
                    case rel => exact ⟨i + 1, rfl, by omega, by simp, rfl, t + (d : Int), rfl, by omega, by omega⟩
              · obtain rfl : i = ts.length := by omega
                have z2 : ¬ ((ts.length : Int) < (ts.length : Int)) := by omega
                go_wp2_with fail
                go_ret
                exact ⟨_, rfl, rfl⟩
end Go.Proofs.Qxb6612998aFmt
