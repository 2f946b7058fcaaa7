import Derived.Test.Qxb6609544aDoorEof
namespace Go.Proofs.Qxb6609544aDoor
open Go.RowKit Go.Sort

theorem eq45 (d : Nat) (zp : Addr) (w : World) : (Op.equalIn (d + 2) 45 (.agg #[.pointer (some zp)]) (.agg #[.pointer (some zp)])).run Tryd.prog w = .ok true w := by
  have hS : Tryd.prog.underlying 45 = some (.struct (Tryd.prog.fieldsOf 45)) := by kernel_rfl
  have h1 := eqp_same zp d
  rw [run_equalIn_agg w (d + 1) 45 _ _ hS (by kernel_rfl)]
  simp only [Program.fieldsOf, Tryd.underlying45]
  simp [Op.eqFields, part, Tryd.isAgg43, h1]
theorem eq42 (d : Nat) (a b : Int) (w : World) : (Op.equalIn (d + 2) 42 (.agg #[.int .u64 0, .int .u64 a]) (.agg #[.int .u64 0, .int .u64 b])).run Tryd.prog w = .ok (decide (a = b)) w := by
  have hS : Tryd.prog.underlying 42 = some (.struct (Tryd.prog.fieldsOf 42)) := by kernel_rfl
  rw [run_equalIn_agg w (d + 1) 42 _ _ hS (by kernel_rfl)]
  simp only [Program.fieldsOf, Tryd.underlying42]
  by_cases h : a = b <;> simp [Op.eqFields, part, go_sem, Op.equalIn, h]
theorem eq47 (d : Nat) (a b : Int) (zp : Addr) (w : World) : (Op.equalIn (d + 3) 47 (.agg #[.int .u64 0, .int .u64 a, .pointer (some zp)]) (.agg #[.int .u64 0, .int .u64 b, .pointer (some zp)])).run Tryd.prog w = .ok (decide (a = b)) w := by
  have hS : Tryd.prog.underlying 47 = some (.struct (Tryd.prog.fieldsOf 47)) := by kernel_rfl
  have h1 := eq42 d a b
  have h2 := eq45 d zp
  rw [run_equalIn_agg w (d + 2) 47 _ _ hS (by kernel_rfl)]
  simp only [Program.fieldsOf, Tryd.underlying47]
  by_cases h : a = b <;> simp [Op.eqFields, part, go_sem, h1, h2, h]
theorem eq49 (d : Nat) (a b a' b' : Int) (zp : Addr) (w : World) : (Op.equalIn (d + 4) 49 (.agg #[.int .u64 0, .int .u64 a, .pointer (some zp), .int .u64 0, .int .u64 a', .pointer (some zp)]) (.agg #[.int .u64 0, .int .u64 b, .pointer (some zp), .int .u64 0, .int .u64 b', .pointer (some zp)])).run Tryd.prog w = .ok (decide (a = b ∧ a' = b')) w := by
  have hS : Tryd.prog.underlying 49 = some (.struct (Tryd.prog.fieldsOf 49)) := by kernel_rfl
  have h3 := eqp_same zp d
  rw [run_equalIn_agg w (d + 3) 49 _ _ hS (by kernel_rfl)]
  simp only [Program.fieldsOf, Tryd.underlying49]
  by_cases h : a = b <;> by_cases h' : a' = b' <;> simp [Op.eqFields, part, go_sem, h3, h, h']
theorem e49 (a b a' b' : Int) (zp : Addr) (r : Bool) (hr : r = decide (a = b ∧ a' = b')) (w : World) : (binOp .eql 49 (.agg #[.int .u64 0, .int .u64 a, .pointer (some zp), .int .u64 0, .int .u64 a', .pointer (some zp)]) (.agg #[.int .u64 0, .int .u64 b, .pointer (some zp), .int .u64 0, .int .u64 b', .pointer (some zp)])).run Tryd.prog w = .ok (.bool r) w := by
  rw [run_eql_struct, show (10000 : Nat) = 9996 + 4 from rfl, eq49, hr]; rfl
theorem n49 (a b a' b' : Int) (zp : Addr) (r : Bool) (hr : r = !decide (a = b ∧ a' = b')) (w : World) : (binOp .neq 49 (.agg #[.int .u64 0, .int .u64 a, .pointer (some zp), .int .u64 0, .int .u64 a', .pointer (some zp)]) (.agg #[.int .u64 0, .int .u64 b, .pointer (some zp), .int .u64 0, .int .u64 b', .pointer (some zp)])).run Tryd.prog w = .ok (.bool r) w := by
  rw [run_neq_struct, show (10000 : Nat) = 9996 + 4 from rfl, eq49, hr]; rfl

def zero6 : Array Value := #[.int .u64 0, .int .u64 0, .pointer none, .int .u64 0, .int .u64 0, .pointer none]
theorem run_clear6 (w : World) (b o n c : Nat) (hn : 0 < n) (hc : ∀ j, j < n * 6 → (w.cell? ⟨b, o + j, none⟩).isSome = true) (hf : ∀ j, j < n * 6 → w.frozen? ⟨b, o + j, none⟩ = false) (ty : TypeId) :
    (Builtin.clear_ #[27] ty #[.slice (some ⟨b, o, none⟩) n c]).run Tryd.prog w = .ok (.tuple #[]) (w.setCells b o (Builtin.zeroCells zero6 n).toList) := by
  have hl : (Builtin.zeroCells zero6 n).toList.length = n * 6 := by simp [Builtin.zeroCells, zero6]
  have hst := run_storeCells_cells (P := Tryd.prog) b o (Builtin.zeroCells zero6 n).toList 0 w (by rw [hl]; simpa using hc) (by rw [hl]; simpa using hf) (by
    intro v hv
    simp only [Builtin.zeroCells, Array.toList_map, List.mem_map] at hv
    obtain ⟨i, -, rfl⟩ := hv
    have : i % zero6.size < 6 := Nat.mod_lt _ (by decide)
    generalize i % zero6.size = t at *
    match t, this with
    | 0, _ => rfl
    | 1, _ => rfl
    | 2, _ => rfl
    | 3, _ => rfl
    | 4, _ => rfl
    | 5, _ => rfl)
  simp only [Nat.add_zero] at hst
  obtain ⟨m, rfl⟩ : ∃ m, n = m + 1 := ⟨n - 1, by omega⟩
  simp [Builtin.clear_, run_underlying Tryd.underlying27]
  change ((Sem.run Tryd.prog (storeCells ⟨b, o, none⟩ (Builtin.zeroCells zero6 (m + 1)).toList) w).andThen _) = _
  rw [hst]
  rfl
end Go.Proofs.Qxb6609544aDoor
