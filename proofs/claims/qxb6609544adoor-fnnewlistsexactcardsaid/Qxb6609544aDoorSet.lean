import Derived.Test.Qxb6609544aDoorIs
import Derived.Test.Qxb6609544aDoorShelf
namespace Go.Proofs.Qxb6609544aDoor
open Go.RowKit

theorem ltOf_t (x y : Int × Int) : ltOf cmpE x y = true ↔ ltE x y := by
  unfold ltOf
  rw [decide_eq_true_iff]
  exact cmpE_neg
theorem ltOf_f (x y : Int × Int) : ltOf cmpE x y = false ↔ ¬ ltE x y := by
  rw [← ltOf_t]; simp
theorem swoE : Sort.SWO (ltOf cmpE) where
  irrefl x := by rw [ltOf_f]; simp [ltE]
  trans x y z h1 h2 := by
    rw [ltOf_t] at *
    exact ltE_trans h1 h2
  ntrans x y z h1 h2 := by
    rw [ltOf_f] at *
    simp only [ltE] at *
    omega

theorem sort_below {zp : Addr} {w : World} {blk m : Nat} {dk : Array (Int × Int)} {os : Array Obj} (hb : blk < w.heap.size) : RowKit.Below blk w (sortWorldK (enc6 zp) 6 w blk 0 m dk os) := by
  refine ⟨rfl, rfl, rfl, ?_, fun i hi => ?_⟩
  · show w.heap.size ≤ (_ ++ os).size
    simp [Sort.putRowK, Sort.putRow, Sort.mapBlock, Sort.ahead]
  · show ((Sort.putRowK (enc6 zp) 6 (Sort.ahead w m) blk 0 dk).heap ++ os)[i]? = w.heap[i]?
    have hs : i < (Sort.putRowK (enc6 zp) 6 (Sort.ahead w m) blk 0 dk).heap.size := by
      simp [Sort.putRowK, Sort.putRow, Sort.mapBlock, Sort.ahead]; omega
    rw [Array.getElem?_append_left hs]
    show (w.heap.modify blk _)[i]? = _
    rw [Array.getElem?_modify, if_neg (by omega)]
theorem holds_H6 {zp : Addr} {w : World} {blk : Nat} {d : Array (Int × Int)} (h : Sort.HoldsK (enc6 zp) 6 w blk 0 d) : H6 w zp blk 0 d.size (fun i => d[i]!) ∧ F6 w blk 0 d.size := by
  constructor
  · intro i hi j hj
    rw [(h.cell hi hj).1]
    have : j < (enc6 zp d[i]!).length := hj
    simp [this]
  · intro k hk
    have q := h.cell (i := k / 6) (c := k % 6) (by omega) (by omega)
    rw [show 0 + k / 6 * 6 + k % 6 = 0 + k by omega] at q
    exact ⟨by rw [q.1]; rfl, q.2⟩

/-- The first n of D as an array. -/
def arrD (n : Nat) (D : Nat → Int × Int) : Array (Int × Int) := ((List.range n).map D).toArray
theorem arrD_size (n : Nat) (D : Nat → Int × Int) : (arrD n D).size = n := by simp [arrD]
theorem arrD_get (n : Nat) (D : Nat → Int × Int) (i : Nat) (h : i < n) : (arrD n D)[i]! = D i := by simp [arrD, h]
def newsD (zp : Addr) (n : Nat) (D : Nat → Int × Int) : List Value := (Sort.flatK (enc6 zp) 6 (arrD n D)).toList
theorem newsD_len (zp : Addr) (n : Nat) (D : Nat → Int × Int) : (newsD zp n D).length = n * 6 := by simp [newsD, arrD_size]
theorem newsD_get (zp : Addr) (n : Nat) (D : Nat → Int × Int) (t : Nat) (h : t < n * 6) : (newsD zp n D)[t]? = (enc6 zp (D (t / 6)))[t % 6]? := by
  have h1 : t % 6 < (enc6 zp (D (t / 6))).length := by rw [len6]; omega
  have h2 : t / 6 < n := by omega
  rw [List.getElem?_eq_getElem h1]
  simp only [newsD, Sort.flatK, arrD_size, Array.toList_map, List.getElem?_map]
  simp [h, arrD_get n D _ h2, h1]
/-- What Clone leaves. -/
theorem clone_any (w : World) (zp : Addr) (B N c : Nat) (D : Nat → Int × Int) (hH : H6 w zp B 0 N D) (hN : N ≤ 131072) :
    Calls Tryd.prog 35 #[.slice (some ⟨B, 0, none⟩) N c] w fun e w' => ∃ g cap, e = .returned (.slice (some ⟨g, 0, none⟩) N cap) ∧ w.heap.size ≤ g ∧ g < w'.heap.size ∧ N ≤ cap ∧ RowKit.Below w.heap.size w w' ∧ Sort.HoldsK (enc6 zp) 6 w' g 0 (arrD N D) := by
  obtain ⟨i49, hi, hz0, hz1, hz2⟩ := info_parts info49
  have h := AnyE.slices_Clone Tryd.cloneE i49 _ 6 48 hi hz0 hz1 hz2 rfl (by omega) Tryd.sizeOf49 B 0 N c (newsD zp N D) w (newsD_len zp N D) (by unfold maxLen; omega) (by omega) (fun j u hu => by
    have hj : j < N * 6 := by rw [← newsD_len zp N D]; exact (List.getElem?_eq_some_iff.1 hu).1
    rw [newsD_get zp N D j hj] at hu
    have q := hH (j / 6) (by omega) (j % 6) (by omega)
    rw [show 0 + j / 6 * 6 + j % 6 = 0 + j by omega] at q
    exact q.trans hu) (fun u hu => by
    obtain ⟨j, hj⟩ := List.getElem?_of_mem hu
    have hj' : j < N * 6 := by rw [← newsD_len zp N D]; exact (List.getElem?_eq_some_iff.1 hj).1
    rw [newsD_get zp N D j hj'] at hj
    have : j % 6 < 6 := by omega
    generalize j % 6 = t at *
    match t, this, hj with
    | 0, _, hj => cases hj; rfl
    | 1, _, hj => cases hj; rfl
    | 2, _, hj => cases hj; rfl
    | 3, _, hj => cases hj; rfl
    | 4, _, hj => cases hj; rfl
    | 5, _, hj => cases hj; rfl)
  change Calls Tryd.prog 35 _ _ _ at h
  refine h.mono ?_
  rintro e w' ⟨v', rfl, ⟨hl, h1 | ⟨g, cap, cur, rfl, e2, e3, e4, e5, e6, e7⟩⟩, hne, hb⟩
  · exact absurd h1.1 hne
  · have hg : g < w'.heap.size := by
      rcases Nat.lt_or_ge g w'.heap.size with h | h
      · exact h
      · rw [Array.getElem?_eq_none h] at e3; exact absurd e3 (by simp)
    refine ⟨g, cap, rfl, e2, hg, e4, hb, fun j hj => ?_⟩
    have hj' : j < N * 6 := by simpa [arrD_size] using hj
    have e3' : w'.heap[g]? = some (.cells cur 49 (0, 0)) := e3
    refine ⟨?_, frozen_of_row _ _ _ _ _ e3'⟩
    rw [cell_of_row _ _ _ _ _ _ e3', Nat.zero_add]
    have e : cur[j]? = (cur.toList.take (N * 6))[j]? := by rw [List.getElem?_take, if_pos hj']; simp
    rw [e, e7]
    simp only [newsD, id, Array.getElem?_toList]
    rw [getElem!_pos _ j hj, Array.getElem?_eq_getElem hj]
end Go.Proofs.Qxb6609544aDoor
