import Derived.Test.Qxb6612998aRows
import Derived.Test.Qxb6612998aShelf
import Derived.WalkKit
import Derived.WalkSpells
import Derived.WalkLawsBesides
import Derived.Deep.QuietTactic
import Derived.BigQuiet
import Derived.Deep.WholeRow
import Derived.Deep.MidRow
import Derived.ProofKit
import Derived.OpenShut
namespace Go.Proofs.Qxb6612998a
open Go.RowKit
open Go.Lib (Hx.encode Hx.encode_length Hx.encode_at Hx.digit)

theorem hide {p : Prop} (h : p) : Hid p := h
theorem unhide {p : Prop} (h : Hid p) : p := h.out

/-- Sixteen bytes as an array's cells. -/
def arr (l : List UInt8) : Array Value := (l.map fun b => Value.int .u8 (b.toNat : Int)).toArray

theorem arr_size (l : List UInt8) : (arr l).size = l.length := by simp [arr]


theorem arr_get (l : List UInt8) (i : Nat) (h : i < l.length) : (arr l)[i]? = some (.int .u8 ((l[i]'h).toNat : Int)) := by
  simp [arr, List.getElem?_eq_getElem h]

theorem arr_cell (w : World) (l : List UInt8) (t : TypeId) (i : Nat) (h : i < l.length) :
    (w.alloc (.cells (arr l) t)).cell? ⟨w.heap.size, i, none⟩ = some (.int .u8 ((l[i]'h).toNat : Int)) := by
  rw [cell_of_row _ _ i (arr l) t (0, 0) (heap_alloc_new w _), arr_get l i h]

set_option maxHeartbeats 400000 in
theorem string_any (l : List UInt8) (hl : l.length = 16) (w : World) :
    Calls Try.prog 5 #[.agg (arr l)] w fun e w' => ∃ s : ByteArray, e = .returned (.string s) ∧ s.size = 32 ∧ Hid (s.data.toList = Hx.encode l) ∧ Below w.heap.size w w' := by
  have hel : (Hx.encode l).length = 32 := by rw [Hx.encode_length, hl]
  have HE := hide hel
  clear hel
  have hsz : (arr l).size = 16 := by rw [arr_size, hl]
  have h := Try.hex_EncodeToString_bytes w.heap.size 0 16 l (w.alloc (.cells (arr l) 23)) (fun i hi => by rw [Nat.zero_add]; exact arr_cell w l 23 i hi) (by simp) (by omega)
  rw [hl] at h
  have H := hide h
  clear h hl
  go_enter Try.func5, Try.ntmps5
  go_wp2_with fail
  refine (unhide H).mono ?_
  rintro e w1 ⟨rfl, hb⟩
  go_wp2_with fail
  go_ret
  exact ⟨_, rfl, (unhide HE), rfl, ((Below.refl _ _).alloc (Nat.le_refl _) _).trans (hb.mono (by simp))⟩

/-- The hexadecimal digit of a number below 16, as the law's own helper reckons it. -/
def dgt (v : Int) : Int := if v < 10 then 48 + v else 87 + v
theorem dgt_lo {v : Int} (h : v < 10) : dgt v = 48 + v := if_pos h
theorem dgt_hi {v : Int} (h : ¬ v < 10) : dgt v = 87 + v := if_neg h
theorem digit_dgt : ∀ n : Fin 16, ((Hx.digit n.val).toNat : Int) = dgt (n.val : Int) := by decide

theorem ret_int {k : IntKind} {a b : Int} (h : a = b) : Ending.returned (.int k a) = .returned (.int k b) := by rw [h]

set_option maxHeartbeats 400000 in
theorem hexDigit_any (v : Int) (h0 : 0 ≤ v) (h1 : v < 16) (w : World) :
    Calls Try.prog 9 #[.int .u8 v] w fun e w' => e = .returned (.int .u8 (dgt v)) ∧ w' = w := by
  by_cases h : v < 10
  · have HD := hide (dgt_lo h)
    go_enter Try.func9, Try.ntmps9
    go_wp2
    go_ret
    exact ⟨ret_int (by rw [unhide HD]), rfl⟩
  · have HD := hide (dgt_hi h)
    go_enter Try.func9, Try.ntmps9
    go_wp2
    go_ret
    exact ⟨ret_int (by rw [unhide HD]; omega), rfl⟩


theorem info22 : (Try.prog.info? 22).map (·.size) = some 16 := by kernel_rfl

/-- A whole array of sixteen bytes is read. -/
theorem wpl_load {ops : Array Oper} {rest : List Oper} {o : Oper} {a : Act} {w : World} {Q : Exit → Act → World → Prop} (l : List UInt8) (g : Nat) (hl : l.length = 16) (x : Operand)
    (hgd : o.guard = none) (ho : o.op = .load 22 x) (hx : a.eval x = .pointer (some ⟨g, 0, none⟩)) (t : TypeId) (hg : w.heap[g]? = some (.cells (arr l) t (0, 0)))
    (h : wpList Try.prog ops Q rest (a.put o.dst (.agg (arr l))) w) : wpList Try.prog ops Q (o :: rest) a w :=
  wpList_load_row hgd 22 x ho g hx t (arr l) (0, 0) _ hg Try.underlying22 rfl (by rw [arr_size, hl]; exact info22) h

theorem arr_one (l : List UInt8) : (arr l).all (·.oneCell') = true := by
  simp [arr, Value.oneCell']

/-- A whole array of sixteen bytes goes into the block that was made last. -/
theorem wpl_store {ops : Array Oper} {rest : List Oper} {o : Oper} {a : Act} {W : World} {Q : Exit → Act → World → Prop} (l : List UInt8) (g : Nat) (hl : l.length = 16) (x y : Operand) (c : Array Value) (hg : W.heap.size = g) (hc : c.size = 16)
    (hgd : o.guard = none) (ho : o.op = .store 22 x y) (hx : a.eval x = .pointer (some ⟨g, 0, none⟩)) (hy : a.eval y = .agg (arr l))
    (h : wpList Try.prog ops Q rest (a.put o.dst undef) (W.alloc (.cells (arr l) 22))) : wpList Try.prog ops Q (o :: rest) a (W.alloc (.cells c 22)) := by
  subst hg
  exact wpList_store_row hgd 22 x y ho W.heap.size (arr l) hx hy 22 c (heap_alloc_new W _) (by rw [arr_size, hl]; exact info22) (by rw [arr_size, hl, hc]) (arr_one l) (by rw [World.setRow_alloc_new]; exact h)

theorem at_store {ops : Array Oper} {rest : List Oper} {o : Oper} {a : Act} {w : World} {Q : Exit → Act → World → Prop} (x y : Operand) (_ : o.op = .store 22 x y)
    (h : wpList Try.prog ops Q (o :: rest) a w) : wpList Try.prog ops Q (o :: rest) a w := h

theorem arr_set (l : List UInt8) (n : Nat) (c : UInt8) : (arr l).setIfInBounds n (.int .u8 (c.toNat : Int)) = arr (l.set n c) := by
  simp [arr, List.map_set]

theorem str_at {s : ByteArray} {L : List UInt8} (h : s.data.toList = L) {m : Nat} (hm : m < s.size) {b : UInt8} (hb : L[m]? = some b) : s[m] = b := by
  subst h
  have hm' : m < s.data.toList.length := by simpa using hm
  rw [List.getElem?_eq_getElem hm'] at hb
  have e : s.data.toList[m] = b := Option.some.inj hb
  rw [← e]
  simp only [Array.getElem_toList]
  rfl

theorem enc_hi {s : ByteArray} {l : List UInt8} (h : s.data.toList = Hx.encode l) {k : Nat} {b : UInt8} (hb : l[k]? = some b) (hm : 2 * k < s.size) : ((s[2 * k]'hm).toNat : Int) = dgt ((b.toNat : Int) / 16) := by
  rw [str_at h hm (Hx.encode_at l k b hb).1]
  have := digit_dgt ⟨b.toNat / 16, by have := b.toNat_lt; omega⟩
  rw [this]
  congr 1

theorem enc_lo {s : ByteArray} {l : List UInt8} (h : s.data.toList = Hx.encode l) {k : Nat} {b : UInt8} (hb : l[k]? = some b) (hm : 2 * k + 1 < s.size) : ((s[2 * k + 1]'hm).toNat : Int) = dgt ((b.toNat : Int) % 16) := by
  rw [str_at h hm (Hx.encode_at l k b hb).2]
  have := digit_dgt ⟨b.toNat % 16, by have := b.toNat_lt; omega⟩
  rw [this]
  congr 1

theorem and15_all : ∀ x : Fin 256, bits BinOp.and IntKind.u8 (x.val : Int) 15 = (x.val : Int) % 16 := by decide +kernel
theorem and15 (c : UInt8) : bits BinOp.and IntKind.u8 (c.toNat : Int) 15 = (c.toNat : Int) % 16 := and15_all ⟨c.toNat, c.toNat_lt⟩

/-- A byte of a string, by what it is. -/
theorem idx (s : ByteArray) (m : Nat) (h : m < s.size) (x i : Int) (hi : i = (m : Int)) (hx : ((s[m]'h).toNat : Int) = x) (w : World) :
    (Instr.index 9 (.string s) (.int .i64 i)).run Try.prog w = .ok (.int .u8 x) w := by
  subst hi hx
  rw [run_index_string w 9 s .i64 m Try.underlying9]
  simp [h]


theorem own : ownKnob Try.prog.godebug = none := by kernel_rfl
theorem laidOut : laidOutB Try.prog = true := by kernel_rfl
theorem cells22 : Try.prog.cellsOf 22 = 16 := by kernel_rfl
theorem cells5 : Try.prog.cellsOf 5 = 1 := by kernel_rfl

/-- An argument of type [16]byte: sixteen bytes. -/
theorem open_arr {H : Type} {enc : TypeId × Value → H} {W : World} {base : Nat} {v : Value} {d : DataW H} {p : List MemPlace}
    (hv : Value.okWide Try.prog W .any base 22 v) (h : DataW.Trod enc Try.prog W 0 (fun _ => true) true 22 v d p) : ∃ l : List UInt8, l.length = 16 ∧ v = .agg (arr l) := by
  obtain ⟨cs, rfl, hsz, _⟩ : ∃ cs, v = .agg cs ∧ cs.size = Try.prog.cellsOf 22 ∧ Row.okWide Try.prog W .any base 22 cs := by
    simpa [Value.okWide, Try.underlying22] using hv
  rw [cells22] at hsz
  obtain ⟨fuel, hf⟩ := h
  obtain ⟨xs, m, _, _, _, hn, hel⟩ := DataW.trod_array Try.underlying22 hf
  have hint : ∀ i, i < 16 → ∃ n : Int, cs[i]? = some (.int .u8 n) ∧ ((UInt8.ofNat n.toNat).toNat : Int) = n := by
    intro i hi
    have h1 := hel i hi
    rw [cells5, Nat.mul_one, List.getElem?_eq_getElem (by omega)] at h1
    obtain ⟨n, hc, _, hw⟩ := DataW.trod_int Try.underlying5 h1
    have hb := bounds_u8 hw
    refine ⟨n, ?_, by rw [UInt8.toNat_ofNat']; omega⟩
    have hc' : (cs.toList.drop i).take 1 = [.int .u8 n] := hc
    have h2 : ((cs.toList.drop i).take 1)[0]? = some (.int .u8 n) := by rw [hc']; rfl
    simpa using h2
  have hll : (cs.toList.map fun v => UInt8.ofNat (intOf v).toNat).length = 16 := by simpa using hsz
  refine ⟨cs.toList.map fun v => UInt8.ofNat (intOf v).toNat, hll, ?_⟩
  congr 1
  apply Array.ext_getElem?
  intro i
  by_cases hi : i < 16
  · obtain ⟨n, hc, e⟩ := hint i hi
    rw [arr_get _ i (by omega), hc]
    have hc2 : cs.toList[i]'(by simpa using hsz ▸ hi) = .int .u8 n := by
      have := List.getElem?_eq_getElem (l := cs.toList) (i := i) (by simpa using hsz ▸ hi)
      rw [Array.getElem?_toList, hc] at this
      exact (Option.some.inj this).symm
    rw [List.getElem_map, hc2]
    show some (Value.int .u8 n) = some (Value.int .u8 ((UInt8.ofNat n.toNat).toNat : Int))
    rw [e]
  · rw [Array.getElem?_eq_none (by omega), Array.getElem?_eq_none (by rw [arr_size, hll]; omega)]
end Go.Proofs.Qxb6612998a
