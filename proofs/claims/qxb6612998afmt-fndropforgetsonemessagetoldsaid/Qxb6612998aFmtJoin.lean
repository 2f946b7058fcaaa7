import Derived.Test.Qxb6612998aFmtSrt
import Derived.Test.Qxb6612998aFmtPure
namespace Go.Proofs.Qxb6612998aFmt
open Go.RowKit

/-- The bytes of a slice, read off the world. -/
def rd (w : World) (x : Option Addr × Nat × Nat) : List Int := (List.range x.2.1).map (fun i => match x.1 with
  | some a => (match w.cell? ⟨a.block, a.off + i, none⟩ with
    | some (.int _ z) => z
    | _ => 0)
  | none => 0)
theorem BO.rd {w : World} {x : Option Addr × Nat × Nat} {l : List Int} (h : BO w (.slice x.1 x.2.1 x.2.2) l) : rd w x = l := by
  obtain ⟨oa, n, c⟩ := x
  rcases h with ⟨oa', c', e, rfl⟩ | ⟨g, cap, cur, e, h1, h2, h3⟩
  · obtain ⟨rfl, rfl, rfl⟩ : oa = oa' ∧ n = 0 ∧ c = c' := by simpa using e
    rfl
  · obtain ⟨rfl, rfl, rfl⟩ : oa = some ⟨g, 0, none⟩ ∧ n = l.length ∧ c = cap := by simpa using e
    unfold Qxb6612998aFmt.rd
    apply List.ext_getElem
    · simp
    · intro i h1' h2'
      have hi : i < l.length := h2'
      have hc : w.cell? ⟨g, 0 + i, none⟩ = some (.int .u8 (l.getD i 0)) := by rw [cell_of_row _ _ _ _ _ _ h2, Nat.zero_add]; exact h3 i hi
      rw [Nat.zero_add] at hc
      simp [hc, hi]
/-- The pieces as an array of pairs. -/
theorem Gv.arr {w : World} {K0 : Nat} {gv : Value} {got : List (Int × List Int)} (h : Gv w K0 gv got) (hne : got ≠ []) : ∃ (g cap : Nat) (d : Array Pc), gv = .slice (some ⟨g, 0, none⟩) got.length cap ∧ d.size = got.length ∧ g < w.heap.size ∧ K0 ≤ g ∧ (∃ cur, w.heap[g]? = some (.cells cur 105 (0, 0))) ∧ Sort.HoldsK enc2 2 w g 0 d ∧ d.toList.map (fun x => (x.1, rd w x.2)) = got ∧ ∀ x ∈ d.toList, BO w (.slice x.2.1 x.2.2.1 x.2.2.2) (rd w x.2) := by
  obtain ⟨xs, ⟨hl, ⟨-, h0⟩ | ⟨g, cap, cur, e1, e2, e3, e4, e5, e6, e7⟩⟩, hx⟩ := h
  · exact absurd (List.length_eq_zero_iff.1 h0) hne
  · have hf : ∀ i, ∃ p : Option Addr × Nat × Nat, i < got.length → xs[i * 2 + 1]? = some (.slice p.1 p.2.1 p.2.2) ∧ BO w (.slice p.1 p.2.1 p.2.2) (got.getD i (0, [])).2 := fun i => by
      by_cases hi : i < got.length
      · obtain ⟨-, v, q1, q2⟩ := hx i hi
        have hv : ∃ oa n c, v = .slice oa n c := by
          rcases q2 with ⟨oa, c, rfl, -⟩ | ⟨g, cap, cur, rfl, -⟩
          · exact ⟨_, _, _, rfl⟩
          · exact ⟨_, _, _, rfl⟩
        obtain ⟨oa, n, c, rfl⟩ := hv
        exact ⟨(oa, n, c), fun _ => ⟨q1, q2⟩⟩
      · exact ⟨(none, 0, 0), fun h => absurd h hi⟩
    obtain ⟨f, hf⟩ : ∃ f : Nat → Option Addr × Nat × Nat, ∀ i, i < got.length → xs[i * 2 + 1]? = some (.slice (f i).1 (f i).2.1 (f i).2.2) ∧ BO w (.slice (f i).1 (f i).2.1 (f i).2.2) (got.getD i (0, [])).2 := ⟨fun i => (hf i).choose, fun i hi => (hf i).choose_spec hi⟩
    have hrd : ∀ i, i < got.length → rd w (f i) = (got.getD i (0, [])).2 := fun i hi => (hf i hi).2.rd
    refine ⟨g, cap, ((List.range got.length).map (fun i => ((got.getD i (0, [])).1, f i))).toArray, e1, by simp, lt_of_heap e3, e2, ⟨cur, e3⟩, fun j hj => ?_, ?_, ?_⟩
    · have hj' : j < got.length * 2 := by simpa using hj
      refine ⟨?_, frozen_of_row _ _ _ _ _ e3⟩
      rw [cell_of_row _ _ _ _ _ _ e3, Nat.zero_add]
      have e : cur[j]? = (cur.toList.take (got.length * 2))[j]? := by rw [List.getElem?_take, if_pos hj']; simp
      rw [e, e7, Sort.get_flatK _ _ _ _ (by simpa using hj')]
      have hd : j / 2 < got.length := by omega
      have hm : j % 2 < 2 := by omega
      have hj2 : j = j / 2 * 2 + j % 2 := by omega
      have hg : (((List.range got.length).map (fun i => ((got.getD i (0, [])).1, f i))).toArray)[j / 2]! = ((got.getD (j / 2) (0, [])).1, f (j / 2)) := by
        rw [getElem!_pos _ _ (by simpa using hd)]; simp
      rw [hg]
      generalize j / 2 = q at *
      have h01 : j % 2 = 0 ∨ j % 2 = 1 := by omega
      rcases h01 with h | h
      · rw [h] at hj2 ⊢
        subst hj2
        exact (hx q hd).1
      · rw [h] at hj2 ⊢
        subst hj2
        exact (hf q hd).1
    · apply List.ext_getElem
      · simp
      · intro i h1 h2
        have hi : i < got.length := by simpa using h2
        have := hrd i hi
        simp [hi] at this ⊢
        rw [this]
    · intro x hx'
      simp only [List.mem_map, List.mem_range] at hx'
      obtain ⟨i, hi, rfl⟩ := hx'
      have := (hf i hi).2
      show BO w (.slice (f i).1 (f i).2.1 (f i).2.2) (rd w (f i))
      rw [hrd i hi]; exact this
theorem cellsL_app (a b : List Int) : cellsL (a ++ b) = cellsL a ++ cellsL b := by simp [cellsL]
/-- The bytes of the first i pieces. -/
def flatP (w : World) (d : Array Pc) (i : Nat) : List Int := (d.toList.take i).flatMap (fun x => rd w x.2)
theorem flatP_succ (w : World) (d : Array Pc) (i : Nat) (h : i < d.size) : flatP w d (i + 1) = flatP w d i ++ rd w (d[i]!).2 := by
  unfold flatP
  rw [List.take_add_one, List.flatMap_append, getElem!_pos d i h]
  simp [h]
theorem flatP_len (w : World) (d : Array Pc) (i : Nat) : (flatP w d i).length ≤ (d.toList.flatMap (fun x => rd w x.2)).length := by
  unfold flatP
  have : d.toList.flatMap (fun x => rd w x.2) = (d.toList.take i).flatMap (fun x => rd w x.2) ++ (d.toList.drop i).flatMap (fun x => rd w x.2) := by rw [← List.flatMap_append, List.take_append_drop]
  rw [this]; simp
theorem lenS_eq : ∀ l : List (Int × List Int), lenS l = ((l.flatMap Prod.snd).length : Int)
  | [] => rfl
  | x :: r => by simp only [lenS, lenS_eq r, List.flatMap_cons, List.length_append]; omega

set_option maxHeartbeats 2000000 in
set_option maxRecDepth 10000 in
theorem join_any (w : World) (K0 : Nat) (m : Msg) (hp : Part w K0 m) (hne : m.got ≠ []) (hk : m.got.length ≤ 255) (hlen : lenS m.got ≤ 16777216) (hnd : (m.got.map Prod.fst).Nodup) (hr : ∀ x ∈ m.got, 1 ≤ x.1 ∧ x.1 ≤ 255) :
    Calls Tryf.prog 38 #[.pointer (some ⟨m.pA, 0, none⟩)] w fun e w' => ∃ v, e = .returned v ∧ BO w' v (joinA m.got) ∧ w'.os = w.os ∧ w'.tape = w.tape ∧ w'.output = w.output ∧ w.heap.size ≤ w'.heap.size ∧ ∀ k, k < w.heap.size → some k ≠ m.gv.ownBlock → w'.heap[k]? = w.heap[k]? := by
  obtain ⟨i5, hi5, hz0, hz1, hz2⟩ := info_parts info5
  obtain ⟨g, cap, d, hgv, hds, hg, hKg, ⟨cur, hcur⟩, hH, hmap, hbo⟩ := hp.2.2.arr hne
  have hpA := hp.1
  have c7 : w.cell? ⟨m.pA, 7, none⟩ = some (.slice (some ⟨g, 0, none⟩) m.got.length cap) := by rw [← hgv]; exact cell_of hpA 7
  have dpg : m.pA ≠ g := tag_ne hpA hcur (by decide)
  have KS := hide (sortP_any w g cap d hg (by omega) hH)
  rw [hds] at KS
  obtain ⟨L, hL⟩ : ∃ L : Nat, lenS m.got = (L : Int) := ⟨(m.got.flatMap Prod.snd).length, lenS_eq _⟩
  have HP := hide hpA
  have HGV := hide hgv
  have HM := hide hmap
  have HBO := hide hbo
  have HC := hide hcur
  clear hpA hgv hmap hbo hH hcur hp
  go_enter Tryf.func38, Tryf.ntmps38
  go_upto_region 2 with (go_at_call 50; refine Calls.mono (unhide KS) ?_; rintro e w1 ⟨rfl, d', hS⟩)
  have hp1 : w1.heap[m.pA]? = some (.cells m.pc 97 (0, 0)) := (hS.block _ (lt_of_heap (unhide HP)) dpg).trans (unhide HP)
  have p7 : w1.cell? ⟨m.pA, 7, none⟩ = some (.slice (some ⟨g, 0, none⟩) m.got.length cap) := by rw [← unhide HGV]; exact cell_of hp1 7
  have p12 : w1.cell? ⟨m.pA, 12, none⟩ = some (.int .i64 (L : Int)) := by rw [← hL]; exact cell_of hp1 12
  have lp : m.pA < w1.heap.size := lt_of_heap hp1
  have HS := hide hS
  clear hS hp1
  go_upto_region 3 with (at_make; refine wpList_make_own _ rfl _ _ 33 rfl w1.heap.size 5 i5 _ 1 Tryf.underlying33 hi5 hz0 hz1 .i64 .i64 _ L rfl rfl rfl (by rw [hz2]; omega) (by unfold maxLen; omega) (Nat.le_refl _) ?_; intro w2 hown hgrow)
  have hb2 : Below w1.heap.size w1 w2 := (Below.refl _ _).grown hgrow (Nat.le_refl _) (fun k hk => by cases hk)
  have q7 : w2.cell? ⟨m.pA, 7, none⟩ = some (.slice (some ⟨g, 0, none⟩) m.got.length cap) := (hb2.cell (p := ⟨m.pA, 7, none⟩) lp).trans p7
  have HOWN := hide hown
  have HB2 := hide hb2
  clear hown hgrow hb2 p7 p12 c7
  go_wp2_with fail
  go_loopg [3, 21] m.got.length (fun gg dv iv w' => ∃ i : Nat, gg = m.got.length - i ∧ i ≤ m.got.length ∧ iv = .int .i64 (i : Int) ∧ Hid (Below w1.heap.size w1 w') ∧ Hid (w'.ownsRow w1.heap.size 5 1 dv (flatP w d' i).length (cellsL (flatP w d' i))))
  case atStart => exact ⟨0, by omega, Nat.zero_le _, rfl, HB2, by rw [show flatP w d' 0 = [] by simp [flatP]]; exact unhide HOWN⟩
  case round =>
    clear HOWN HB2 KS
    obtain ⟨i, hgk, hile, rfl, HB, HO⟩ := hrel
    have hsz' : d'.size = m.got.length := (unhide HS).size.trans hds
    have hmax : (flatP w d' i).length ≤ 16777216 := by
      have h1 := flatP_len w d' i
      have h2 := ((unhide HS).perm.flatMap_right (fun x => rd w x.2)).length_eq
      have h3 : (d.toList.flatMap (fun x => rd w x.2)) = m.got.flatMap Prod.snd := by rw [← unhide HM]; simp [List.flatMap_map]
      rw [h3] at h2
      have h4 := lenS_eq m.got
      omega
    by_cases c : i < m.got.length
    · have hx1 := (unhide HS).row.cell (i := i) (c := 0) (by omega) (by omega)
      have hx2 := (unhide HS).row.cell (i := i) (c := 1) (by omega) (by omega)
      have hmem : d'[i]! ∈ d.toList := (unhide HS).perm.mem_iff.1 (by rw [getElem!_pos d' i (by omega)]; exact Array.getElem_mem_toList _)
      have hbx := unhide HBO _ hmem
      have hfl := flatP_succ w d' i (by omega)
      have hmax2 : (flatP w d' i).length + (rd w (d'[i]!).2).length ≤ 16777216 * 2 := by
        have h1 := flatP_len w d' (i + 1)
        have h2 := ((unhide HS).perm.flatMap_right (fun x => rd w x.2)).length_eq
        have h3 : (d.toList.flatMap (fun x => rd w x.2)) = m.got.flatMap Prod.snd := by rw [← unhide HM]; simp [List.flatMap_map]
        rw [h3] at h2
        have h4 := lenS_eq m.got
        rw [hfl, List.length_append] at h1
        omega
      generalize d'[i]! = x at *
      obtain ⟨x1, x2, x3, x4⟩ := x
      change w1.cell? ⟨g, 0 + i * 2 + 0, none⟩ = some (.int .i64 x1) ∧ _ at hx1
      change w1.cell? ⟨g, 0 + i * 2 + 1, none⟩ = some (.slice x2 x3 x4) ∧ _ at hx2
      change BO w (.slice x2 x3 x4) (rd w (x2, x3, x4)) at hbx
      have lg : g < w1.heap.size := Nat.lt_of_lt_of_le hg (unhide HS).le
      have y1 : wr.cell? ⟨g, i * 2, none⟩ = some (.int .i64 x1) := by
        rw [(unhide HB).cell (p := ⟨g, i * 2, none⟩) lg, ← hx1.1]; simp
      have y2 : wr.cell? ⟨g, i * 2 + 1, none⟩ = some (.slice x2 x3 x4) := by
        rw [(unhide HB).cell (p := ⟨g, i * 2 + 1, none⟩) lg, ← hx2.1]; simp
      have z1 : (0 : Int) ≤ (i : Int) := by omega
      have z2 : (i : Int) < (m.got.length : Int) := by omega
      have bW : Below w1.heap.size w1 (wr.alloc (.cells #[.int .i64 x1, .slice x2 x3 x4] 105)) := (unhide HB).alloc (unhide HB).size _
      have lW : w1.heap.size ≤ (wr.alloc (.cells #[.int .i64 x1, .slice x2 x3 x4] 105)).heap.size := bW.size
      have boW : BO (wr.alloc (.cells #[.int .i64 x1, .slice x2 x3 x4] 105)) (.slice x2 x3 x4) (rd w (x2, x3, x4)) := hbx.keep (fun k cs e => by
        rw [bW.block k (Nat.lt_of_lt_of_le (lt_of_heap e) (unhide HS).le), (unhide HS).block k (lt_of_heap e) (tag_ne e (unhide HC) (by decide))])
      have oW : (wr.alloc (.cells #[.int .i64 x1, .slice x2 x3 x4] 105)).ownsRow w1.heap.size 5 1 u3 (flatP w d' i).length (cellsL (flatP w d' i)) := ownsRow_kp (unhide HO) (fun k cs e => Below.heap_alloc _ _ k (lt_of_heap e))
      have hn' : (flatP w d' i).length + (rd w (x2, x3, x4)).length ≤ 1099511627776 := by
        change (flatP w d' i).length + (rd w (x2, x3, x4)).length ≤ 16777216 * 2 at hmax2; omega
      change flatP w d' (i + 1) = flatP w d' i ++ rd w (x2, x3, x4) at hfl
      have ARM : Hid (∀ v' w', w'.ownsRow w1.heap.size 5 1 v' ((flatP w d' i).length + (rd w (x2, x3, x4)).length) (cellsL (flatP w d' i) ++ cellsL (rd w (x2, x3, x4))) → (wr.alloc (.cells #[.int .i64 x1, .slice x2 x3 x4] 105)).grownBy w' u3.ownBlock → w'.ownsRow w1.heap.size 5 1 v' (flatP w d' (i + 1)).length (cellsL (flatP w d' (i + 1))) ∧ Below w1.heap.size w1 w') := fun v' w' ho' hgr' => by
        rw [← List.length_append, ← cellsL_app, ← hfl] at ho'
        refine ⟨ho', bW.grown hgr' lW (fun k hk => ?_)⟩
        obtain ⟨-, ⟨rfl, -⟩ | ⟨g0, c0, cu, rfl, h1, -⟩⟩ := oW
        · cases hk
        · simp [Value.ownBlock] at hk; omega
      have OW := hide oW
      have BW := hide boW.bs
      have LW := hide lW
      clear hx1 hx2 hbx bW lW boW oW hfl
      go_wp2_with (at_builtin; refine wpList_appB _ rfl _ _ rfl w1.heap.size _ _ _ rfl (unhide OW) _ _ rfl (unhide BW) hn' (unhide LW) ?_; intro v' w' ho' hgr' _; have HN := hide (unhide ARM v' w' ho' hgr'); clear ho' hgr')
      go_roundg (m.got.length - (i + 1))
      case measure => omega
      case rel => exact ⟨i + 1, rfl, by omega, by simp, (unhide HN).2, (unhide HN).1⟩
    · obtain rfl : i = m.got.length := by omega
      have z2 : ¬ ((m.got.length : Int) < (m.got.length : Int)) := by omega
      go_wp2_with fail
      go_ret
      have hS := unhide HS
      have hfull : flatP w d' m.got.length = joinA m.got := by
        unfold flatP
        rw [List.take_of_length_le (by simp; omega)]
        have e : d'.toList.flatMap (fun x => rd w x.2) = (d'.toList.map (fun x => (x.1, rd w x.2))).flatMap Prod.snd := by simp [List.flatMap_map]
        rw [e]
        refine join_sorted (got := m.got) ?_ hnd hr ?_
        · rw [← unhide HM]; exact hS.perm.map _
        · rw [List.pairwise_map, List.pairwise_iff_getElem]
          intro a b ha hb hab
          have := hS.sort a b hab (by simpa using hb)
          rw [getElem!_pos d' b (by simpa using hb), getElem!_pos d' a (by simpa using ha)] at this
          simpa using this
      have ho := unhide HO
      have hB := unhide HB
      rw [hfull] at ho
      refine ⟨_, rfl, ?_, hB.os.trans hS.os, hB.tape.trans hS.tape, hB.output.trans hS.output, Nat.le_trans hS.le hB.size, fun k hk hne => ?_⟩
      · obtain ⟨-, ⟨h1, h2⟩ | ⟨g0, c0, cu, h1, h2, h3, h4, h5, h6, h7⟩⟩ := ho
        · exact Or.inl ⟨none, 0, h1, List.length_eq_zero_iff.1 h2⟩
        · refine Or.inr ⟨g0, c0, cu, h1, h4, h3, fun j hj => ?_⟩
          have e : cu[j]? = (cu.toList.take ((joinA m.got).length * 1))[j]? := by rw [List.getElem?_take, if_pos (by omega)]; simp
          rw [e, h7, cellsL_get _ _ hj]
      · rw [hB.block k (Nat.lt_of_lt_of_le hk hS.le)]
        refine hS.block k hk (fun e => hne ?_)
        rw [unhide HGV, e]; rfl
end Go.Proofs.Qxb6612998aFmt
