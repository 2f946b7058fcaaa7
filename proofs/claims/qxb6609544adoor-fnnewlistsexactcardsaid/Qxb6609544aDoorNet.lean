import Derived.Test.Qxb6609544aDoorRows
import Derived.WalkKit
import Derived.WalkSpells
import Derived.WalkLawsBesides
import Derived.Deep.QuietTactic
import Derived.BigQuiet
import Derived.BigRegion
import Derived.Laws.Bits64b
import Derived.LaidEql
import Derived.Deep.RegionHeld3
import Derived.Shelf.SlSortCmp.QuietGrown
namespace Go.Proofs.Qxb6609544aDoor
open Go.RowKit Go.Sort

theorem hide {p : Prop} (h : p) : Hid p := h
theorem unhide {p : Prop} (h : Hid p) : p := h.out
theorem ret_int {k : IntKind} {a b : Int} (h : a = b) : Ending.returned (.int k a) = .returned (.int k b) := by rw [h]

/-- The two package-level variables of net/netip as the start lays them: z4 leads to zp, z0 is nil. -/
def Zs (w : World) (zp : Addr) : Prop := w.cell? ⟨0, 0, none⟩ = some (.pointer (some zp)) ∧ w.cell? ⟨1, 0, none⟩ = some (.pointer none) ∧ 2 ≤ w.heap.size ∧ zp.block < w.heap.size


/-- '|' of numbers that share no bit is '+'. -/
theorem or_sum (k p q : Nat) (hq : q < 2 ^ k) (hs : 2 ^ k * p + q < 18446744073709551616) : bits BinOp.or IntKind.u64 ((2 ^ k * p : Nat) : Int) (q : Int) = ((2 ^ k * p + q : Nat) : Int) := by
  rw [bits_or_u64_nat _ _ (by omega) (by omega), ← Nat.two_pow_add_eq_or_of_lt hq]

/-- The number of an IPv4 address. -/
def num (a b c d : Int) : Int := a * 16777216 + b * 65536 + c * 256 + d

theorem or4 (a b c d : Int) (a0 : 0 ≤ a) (a1 : a ≤ 255) (b0 : 0 ≤ b) (b1 : b ≤ 255) (c0 : 0 ≤ c) (c1 : c ≤ 255) (d0 : 0 ≤ d) (d1 : d ≤ 255) :
    bits BinOp.or IntKind.u64 (bits BinOp.or IntKind.u64 (bits BinOp.or IntKind.u64 (bits BinOp.or IntKind.u64 281470681743360 (a * 16777216)) (b * 65536)) (c * 256)) d = 281470681743360 + num a b c d := by
  obtain ⟨a, rfl⟩ := Int.eq_ofNat_of_zero_le a0
  obtain ⟨b, rfl⟩ := Int.eq_ofNat_of_zero_le b0
  obtain ⟨c, rfl⟩ := Int.eq_ofNat_of_zero_le c0
  obtain ⟨d, rfl⟩ := Int.eq_ofNat_of_zero_le d0
  have e1 := or_sum 32 65535 (a * 16777216) (by omega) (by omega)
  have e2 := or_sum 24 (16776960 + a) (b * 65536) (by omega) (by omega)
  have e3 := or_sum 16 ((16776960 + a) * 256 + b) (c * 256) (by omega) (by omega)
  have e4 := or_sum 8 (((16776960 + a) * 256 + b) * 256 + c) d (by omega) (by omega)
  rw [show ((2 ^ 32 * 65535 : Nat) : Int) = 281470681743360 by decide, show ((a * 16777216 : Nat) : Int) = (a : Int) * 16777216 by omega] at e1
  rw [e1]
  rw [show ((2 ^ 24 * (16776960 + a) : Nat) : Int) = ((2 ^ 32 * 65535 + a * 16777216 : Nat) : Int) by omega, show ((b * 65536 : Nat) : Int) = (b : Int) * 65536 by omega] at e2
  rw [e2]
  rw [show ((2 ^ 16 * ((16776960 + a) * 256 + b) : Nat) : Int) = ((2 ^ 24 * (16776960 + a) + b * 65536 : Nat) : Int) by omega, show ((c * 256 : Nat) : Int) = (c : Int) * 256 by omega] at e3
  rw [e3]
  rw [show ((2 ^ 8 * (((16776960 + a) * 256 + b) * 256 + c) : Nat) : Int) = ((2 ^ 16 * ((16776960 + a) * 256 + b) + c * 256 : Nat) : Int) by omega] at e4
  rw [e4]
  unfold num
  omega

/-- w' is w after some draws, with some blocks laid behind it. -/
def Gr (w w' : World) : Prop := ∃ (q : Nat) (os : Array Obj), w' = grow (w.drewN q) os
theorem Gr.refl (w : World) : Gr w w := ⟨0, #[], by rw [grow_empty]; rfl⟩
theorem Gr.trans {a b c : World} (h1 : Gr a b) (h2 : Gr b c) : Gr a c := by
  obtain ⟨q1, o1, rfl⟩ := h1
  obtain ⟨q2, o2, rfl⟩ := h2
  exact ⟨q1 + q2, o1 ++ o2, by show grow (grow ((a.drewN q1).drewN q2) o1) o2 = _; rw [grow_grow, World.drewN_drewN]⟩
theorem Gr.alloc {a b : World} (h : Gr a b) (o : Obj) : Gr a (b.alloc o) := h.trans ⟨0, #[o], by rw [alloc_eq_grow]; rfl⟩
theorem Gr.drewN {a b : World} (h : Gr a b) (k : Nat) : Gr a (b.drewN k) := h.trans ⟨k, #[], by rw [grow_empty]⟩
theorem Gr.drew {a b : World} (h : Gr a b) : Gr a b.drew := h.drewN 1
theorem Gr.below {a b : World} (h : Gr a b) : Below a.heap.size a b := by
  obtain ⟨q, os, rfl⟩ := h
  exact ⟨rfl, rfl, rfl, by simp [grow], fun i hi => by
    show ((a.drewN q).heap ++ os)[i]? = _
    rw [Array.getElem?_append_left (by show i < a.heap.size; omega)]
    rfl⟩
theorem Gr.cell {a b : World} {p : Addr} {v : Value} (h : Gr a b) (hb : p.block < a.heap.size) (hc : a.cell? p = some v) : b.cell? p = some v := by
  obtain ⟨q, os, rfl⟩ := h
  exact cell_grown hb hc q os
theorem Gr.size {a b : World} (h : Gr a b) : a.heap.size ≤ b.heap.size := by
  obtain ⟨q, os, rfl⟩ := h
  rw [size_grow]; exact Nat.le_add_right _ _

set_option maxHeartbeats 400000 in
theorem from4_any (a b c d : Int) (zp : Addr) (w : World) (hz : Zs w zp) (a0 : 0 ≤ a) (a1 : a ≤ 255) (b0 : 0 ≤ b) (b1 : b ≤ 255) (c0 : 0 ≤ c) (c1 : c ≤ 255) (d0 : 0 ≤ d) (d1 : d ≤ 255) :
    Calls Tryd.prog 33 #[.agg #[.int .u8 a, .int .u8 b, .int .u8 c, .int .u8 d]] w fun e w' => e = .returned (.agg #[.int .u64 0, .int .u64 (281470681743360 + num a b c d), .pointer (some zp)]) ∧ Gr w w' := by
  have g0 := hz.1
  have g1 := hz.2.1
  have hs := hz.2.2.1
  have hs0 : 0 < w.heap.size := by omega
  have hs1 : 0 < w.heap.size + 1 := by omega
  have HE := hide (or4 a b c d a0 a1 b0 b1 c0 c1 d0 d1)
  clear hz
  go_enter Tryd.func33, Tryd.ntmps33
  go_wp2_with fail
  rw [unhide HE]
  exact bodyPost_ret (v := .agg #[.int .u64 0, .int .u64 (281470681743360 + num a b c d), .pointer (some zp)]) (by simp [results, Tryd.results33, go_sem]) rfl ⟨rfl, ((Gr.refl _).alloc _).alloc _⟩

/-- An IPv4 address as a value. -/
def adr (n : Int) (zp : Addr) : Value := .agg #[.int .u64 0, .int .u64 n, .pointer (some zp)]


theorem eqp_same (a : Addr) (d : Nat) (w : World) : (Op.equalIn (d + 1) 43 (.pointer (some a)) (.pointer (some a))).run Tryd.prog w = .ok true w := by
  simp [Op.equalIn, run_underlying Tryd.underlying43, Tryd.sizeOf113, run_sameAddr_same]
theorem eqp_nil (a : Addr) (d : Nat) (w : World) : (Op.equalIn (d + 1) 43 (.pointer (some a)) (.pointer none)).run Tryd.prog w = .ok false w := by
  simp [Op.equalIn, run_underlying Tryd.underlying43]

theorem eqz_same (zp : Addr) (w : World) : (Op.equalIn 10000 45 (.agg #[.pointer (some zp)]) (.agg #[.pointer (some zp)])).run Tryd.prog w = .ok true w := by
  have hS : Tryd.prog.underlying 45 = some (.struct (Tryd.prog.fieldsOf 45)) := by kernel_rfl
  have h1 := eqp_same zp 9998
  rw [show (10000 : Nat) = 9999 + 1 from rfl, run_equalIn_agg w 9999 45 _ _ hS (by kernel_rfl)]
  simp only [Program.fieldsOf, Tryd.underlying45]
  simp [Op.eqFields, part, Tryd.isAgg43, h1]
theorem eqz_nil (zp : Addr) (w : World) : (Op.equalIn 10000 45 (.agg #[.pointer (some zp)]) (.agg #[.pointer none])).run Tryd.prog w = .ok false w := by
  have hS : Tryd.prog.underlying 45 = some (.struct (Tryd.prog.fieldsOf 45)) := by kernel_rfl
  have h1 := eqp_nil zp 9998
  rw [show (10000 : Nat) = 9999 + 1 from rfl, run_equalIn_agg w 9999 45 _ _ hS (by kernel_rfl)]
  simp only [Program.fieldsOf, Tryd.underlying45]
  simp [Op.eqFields, part, Tryd.isAgg43, h1]

theorem zeq_same (zp : Addr) (w : World) : (binOp .eql 45 (.agg #[.pointer (some zp)]) (.agg #[.pointer (some zp)])).run Tryd.prog w = .ok (.bool true) w := by
  rw [run_eql_struct, eqz_same]; rfl
theorem zeq_nil (zp : Addr) (w : World) : (binOp .eql 45 (.agg #[.pointer (some zp)]) (.agg #[.pointer none])).run Tryd.prog w = .ok (.bool false) w := by
  rw [run_eql_struct, eqz_nil]; rfl
theorem zne_same (zp : Addr) (w : World) : (binOp .neq 45 (.agg #[.pointer (some zp)]) (.agg #[.pointer (some zp)])).run Tryd.prog w = .ok (.bool false) w := by
  rw [run_neq_struct, eqz_same]; rfl
theorem zne_nil (zp : Addr) (w : World) : (binOp .neq 45 (.agg #[.pointer (some zp)]) (.agg #[.pointer none])).run Tryd.prog w = .ok (.bool true) w := by
  rw [run_neq_struct, eqz_nil]; rfl

set_option maxHeartbeats 400000 in
theorem bitLen_any (n : Int) (zp : Addr) (w : World) (hz : Zs w zp) :
    Calls Tryd.prog 57 #[.agg #[.int .u64 0, .int .u64 n, .pointer (some zp)]] w fun e w' => e = .returned (.int .i64 32) ∧ w' = w.alloc (.cells #[.int .u64 0, .int .u64 n, .pointer (some zp)] 47) := by
  have g0 := hz.1
  have g1 := hz.2.1
  have hs := hz.2.2.1
  have hs0 : 0 < w.heap.size := by omega
  have hs1 : 1 < w.heap.size := by omega
  have q1 := zeq_same zp
  have q2 := zeq_nil zp
  clear hz
  go_enter Tryd.func57, Tryd.ntmps57
  go_wp2_with fail
  go_ret
  exact ⟨rfl, rfl⟩

set_option maxHeartbeats 400000 in
theorem is6_any (n : Int) (zp : Addr) (w : World) (hz : Zs w zp) :
    Calls Tryd.prog 58 #[.agg #[.int .u64 0, .int .u64 n, .pointer (some zp)]] w fun e w' => e = .returned (.bool false) ∧ w' = w.alloc (.cells #[.int .u64 0, .int .u64 n, .pointer (some zp)] 47) := by
  have g0 := hz.1
  have g1 := hz.2.1
  have hs := hz.2.2.1
  have hs0 : 0 < w.heap.size := by omega
  have hs1 : 1 < w.heap.size := by omega
  have q1 := zne_same zp
  have q2 := zne_nil zp
  clear hz
  go_enter Tryd.func58, Tryd.ntmps58
  go_wp2_with fail
  go_ret
  exact ⟨rfl, rfl⟩

theorem Zs.alloc {w : World} {zp : Addr} (h : Zs w zp) (o : Obj) : Zs (w.alloc o) zp := by
  obtain ⟨h1, h2, h3, h4⟩ := h
  refine ⟨?_, ?_, by simp; omega, by simp; omega⟩
  · rw [World.cell?_alloc_lt _ _ _ (by show 0 < w.heap.size; omega)]; exact h1
  · rw [World.cell?_alloc_lt _ _ _ (by show 1 < w.heap.size; omega)]; exact h2
theorem Zs.below {w w' : World} {zp : Addr} (h : Zs w zp) (hb : Below w.heap.size w w') : Zs w' zp := by
  obtain ⟨h1, h2, h3, h4⟩ := h
  have hz := hb.size
  exact ⟨(hb.cell (p := ⟨0, 0, none⟩) (by show 0 < w.heap.size; omega)).trans h1, (hb.cell (p := ⟨1, 0, none⟩) (by show 1 < w.heap.size; omega)).trans h2, by omega, by omega⟩
theorem Zs.drew {w : World} {zp : Addr} (h : Zs w zp) : Zs w.drew zp := h
theorem Zs.drewN {w : World} {zp : Addr} (h : Zs w zp) (q : Nat) : Zs (w.drewN q) zp := h
theorem Zs.gr {w w' : World} {zp : Addr} (h : Zs w zp) (hg : Gr w w') : Zs w' zp := h.below hg.below

/-- cmp of two numbers. -/
def cmpI (x y : Int) : Int := if x < y then -1 else if y < x then 1 else 0

set_option maxHeartbeats 1000000 in
theorem addrCompare_any (n1 n2 : Int) (zp : Addr) (w : World) (hz : Zs w zp) :
    Calls Tryd.prog 50 #[.agg #[.int .u64 0, .int .u64 n1, .pointer (some zp)], .agg #[.int .u64 0, .int .u64 n2, .pointer (some zp)]] w fun e w' => e = .returned (.int .i64 (cmpI n1 n2)) ∧ Gr w w' := by
  have HZ := hide hz
  clear hz
  go_enter Tryd.func50, Tryd.ntmps50
  go_wp2_with fail
  go_region_held3 (fun w' => w'.cell? ⟨w.heap.size, 0, none⟩ = some (.int .u64 0) ∧ w'.cell? ⟨w.heap.size, 1, none⟩ = some (.int .u64 n1) ∧ w'.cell? ⟨w.heap.size, 2, none⟩ = some (.pointer (some zp)) ∧ w'.cell? ⟨w.heap.size + 1, 0, none⟩ = some (.int .u64 0) ∧ w'.cell? ⟨w.heap.size + 1, 1, none⟩ = some (.int .u64 n2) ∧ w'.cell? ⟨w.heap.size + 1, 2, none⟩ = some (.pointer (some zp)))
    (go_keep) (first | (go_at_call 57; refine (bitLen_any _ zp _ ?_).mono ?_; (first | exact (((unhide HZ).alloc _).alloc _).drew | exact ((((unhide HZ).alloc _).alloc _).alloc _).drew); rintro e w9 ⟨rfl, rfl⟩))
  go_wp2_with fail
  go_quiet (fail)
  go_wp2_with fail
  go_quiet (fail)
  by_cases c1 : n1 < n2
  · have HE := hide (show cmpI n1 n2 = -1 from if_pos c1)
    go_wp2_with fail
    go_ret
    exact ⟨ret_int (by rw [unhide HE]), ((((((Gr.refl _).alloc _).alloc _).alloc _).alloc _).drewN _)⟩
  · by_cases c2 : n2 < n1
    · have HE : Hid (cmpI n1 n2 = 1) := by show cmpI n1 n2 = 1; unfold cmpI; rw [if_neg c1, if_pos c2]
      go_wp2_with fail
      go_ret
      exact ⟨ret_int (by rw [unhide HE]), ((((((Gr.refl _).alloc _).alloc _).alloc _).alloc _).drewN _)⟩
    · have HE : Hid (cmpI n1 n2 = 0) := by show cmpI n1 n2 = 0; unfold cmpI; rw [if_neg c1, if_neg c2]
      go_wp2_with fail
      refine (is6_any _ zp _ ?_).mono ?_
      · exact (((((unhide HZ).alloc _).alloc _).alloc _).alloc _)
      rintro e w9 ⟨rfl, rfl⟩
      go_wp2_with fail
      go_ret
      exact ⟨ret_int (by rw [unhide HE]), (((((((Gr.refl _).alloc _).alloc _).alloc _).alloc _).alloc _).drewN _)⟩
end Go.Proofs.Qxb6609544aDoor
