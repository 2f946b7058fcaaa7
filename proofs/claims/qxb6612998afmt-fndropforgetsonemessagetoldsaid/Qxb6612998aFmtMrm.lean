import Derived.Test.Qxb6612998aFmtMod
namespace Go.Proofs.Qxb6612998aFmt
open Go.RowKit Go.Sort

theorem info59 : (Tryf.prog.info? 59).map (fun i => (i.zero, i.size, i.bytes)) = some (some (.pointer none), 1, 8) := by kernel_rfl
theorem mapE {α β : Type} (f : α → β) : ∀ (l : List α) (i : Nat), (l.eraseIdx i).map f = (l.map f).eraseIdx i
  | [], _ => rfl
  | _ :: _, 0 => rfl
  | a :: r, i + 1 => by simp only [List.eraseIdx_cons_succ, List.map_cons, mapE f r i]
theorem take_erase_ne {α : Type} (xs : List α) (i k : Nat) (hk : k < xs.length) (hne : k ≠ i) : (xs.take (k + 1)).eraseIdx i = (xs.take k).eraseIdx i ++ [xs[k]] := by
  rw [List.take_add_one, List.getElem?_eq_getElem hk]
  have hl : (xs.take k).length = k := by simp; omega
  simp only [Option.toList_some]
  rcases Nat.lt_or_ge i k with c | c
  · rw [List.eraseIdx_append_of_lt_length (by omega)]
  · rw [List.eraseIdx_append_of_length_le (by omega), List.eraseIdx_of_length_le (by simp; omega), List.eraseIdx_of_length_le (by omega)]
theorem take_erase_eq {α : Type} (xs : List α) (i : Nat) (hk : i < xs.length) : (xs.take (i + 1)).eraseIdx i = (xs.take i).eraseIdx i := by
  rw [List.take_add_one, List.getElem?_eq_getElem hk]
  have hl : (xs.take i).length = i := by simp; omega
  simp only [Option.toList_some]
  have e : (xs.take i).eraseIdx i = xs.take i := List.eraseIdx_of_length_le (by omega)
  rw [List.eraseIdx_append_of_length_le (by omega), hl, Nat.sub_self, e]
  simp
theorem sumA_erase : ∀ (aa : List Abs) (i : Nat) (hi : i < aa.length), sumA (aa.eraseIdx i) = sumA aa - costS (aa[i]).got
  | a :: r, 0, _ => by simp only [List.eraseIdx_cons_zero, List.getElem_cons_zero, sumA]; omega
  | a :: r, i + 1, hi => by
    have := sumA_erase r i (by simpa using hi)
    simp only [List.eraseIdx_cons_succ, List.getElem_cons_succ, sumA]; omega
theorem ownsRow_base {w : World} {b b' : Nat} {e : TypeId} {size : Nat} {v : Value} {n : Nat} {xs : List Value} (h : w.ownsRow b e size v n xs) (hb : b' ≤ b) : w.ownsRow b' e size v n xs := by
  obtain ⟨h1, h | ⟨g, cap, cur, e1, e2, e3, e4⟩⟩ := h
  · exact ⟨h1, Or.inl h⟩
  · exact ⟨h1, Or.inr ⟨g, cap, cur, e1, Nat.le_trans hb e2, e3, e4⟩⟩

theorem ownsRow_slice {w : World} {b : Nat} {e : TypeId} {size : Nat} {v : Value} {n : Nat} {xs : List Value} (h : w.ownsRow b e size v n xs) : ∃ oa n c, v = .slice oa n c := by
  obtain ⟨-, ⟨h, -⟩ | ⟨g, cap, cur, e1, -⟩⟩ := h
  · exact ⟨_, _, _, h⟩
  · exact ⟨_, _, _, e1⟩

set_option maxHeartbeats 4000000 in
set_option maxRecDepth 10000 in
theorem remove_any {w : World} {K0 M : Nat} {mx lt lim : Int} {mv : Value} {xs : List MM} (h : RepM w K0 M mx lt lim mv xs) (i : Nat) (hi : i < xs.length) (hl : xs.length ≤ 1099511627776) (hs : sumA (xs.map Prod.snd) ≤ 1099511627776) (hK : K0 ≤ w.heap.size) :
    Calls Tryf.prog 16 #[.pointer (some ⟨M, 0, none⟩), .int .i64 (i : Int)] w fun e w' => e = .returned (.tuple #[]) ∧ ∃ mv', RepM w' K0 M mx lt lim mv' (xs.eraseIdx i) ∧ Ch [M] w w' := by
  obtain ⟨i59, hi59, hz0, hz1, hz2⟩ := info_parts info59
  obtain ⟨g, cap, rfl, hg, ⟨cg, hcg⟩, hrow⟩ := h.row (by intro e; rw [e] at hi; simp at hi)
  obtain ⟨cs, hcs, hmc⟩ := (h.each _ (List.getElem_mem hi)).2
  have hse := sumA_erase (xs.map Prod.snd) i (by simpa using hi)
  rw [List.getElem_map] at hse
  have hc1 : costS (xs[i]).2.got ≤ sumA (xs.map Prod.snd) := sumA_mem _ _ (List.mem_map.2 ⟨_, List.getElem_mem hi, rfl⟩)
  have hc0 := costS_pos (xs[i]).2.got
  have c3 : w.cell? ⟨M, 3, none⟩ = some (.slice (some ⟨g, 0, none⟩) xs.length cap) := cell_of h.root 3
  have c4 : w.cell? ⟨M, 4, none⟩ = some (.int .i64 (sumA (xs.map Prod.snd))) := cell_of h.root 4
  have f4 : w.frozen? ⟨M, 4, none⟩ = false := froz_of h.root 4
  have hx := hrow i hi
  have p8 : w.cell? ⟨(xs[i]).1, 518, none⟩ = some (.int .i64 (costS (xs[i]).2.got)) := (cell_of hcs 518).trans hmc.cost
  have we : IntKind.i64.wrap (sumA (xs.map Prod.snd) - costS (xs[i]).2.got) = sumA (xs.map Prod.snd) - costS (xs[i]).2.got := by rw [IntKind.wrap_i64]; omega
  have z1 : (0 : Int) ≤ (i : Int) := by omega
  have z2 : (i : Int) < (xs.length : Int) := by omega
  have dgM : g ≠ M := tag_ne hcg h.root (by decide)
  have dAM : (xs[i]).1 ≠ M := tag_ne hcs h.root (by decide)
  have H := hide h
  have HR := hide hrow
  have HSE := hide hse
  unfold ptrM at hx
  obtain ⟨S, hS⟩ : ∃ S, S = sumA (xs.map Prod.snd) := ⟨_, rfl⟩
  obtain ⟨C, hC⟩ : ∃ C, C = costS (xs[i]).2.got := ⟨_, rfl⟩
  obtain ⟨A, hA⟩ : ∃ A, A = (xs[i]).1 := ⟨_, rfl⟩
  rw [← hS, ← hC] at we
  rw [← hS] at c4
  rw [← hA] at hx
  rw [← hA, ← hC] at p8
  have HSC := hide (And.intro hS hC)
  have HCG := hide hcg
  have HB := hide (And.intro hc1 hc0)
  clear h hrow hse hcs hmc hcg hc1 hc0 hS hC dAM hA
  go_enter Tryf.func16, Tryf.ntmps16
  go_wp2_with fail
  go_region
  go_upto_region 1 with fail
  obtain ⟨W1, hW1⟩ : ∃ W, W = (w.setCell ⟨M, 4, none⟩ (Value.int IntKind.i64 (S - C))).drew := ⟨_, rfl⟩
  rw [← hW1]
  have ch1 : Ch [M] w W1 := by rw [hW1]; exact ((Ch.refl _ w).setCell _ _ (Or.inl (by simp))).drew
  have sz1 : W1.heap.size = w.heap.size := by rw [hW1]; exact size_setCell _ _ _
  have bM1 : W1.heap[M]? = some (.cells (mrow mx lt lim (.slice (some ⟨g, 0, none⟩) xs.length cap) (S - C)) 48 (0, 0)) := by
    rw [hW1]; exact heap_setCell_row (unhide H).root 4 _
  have d3 : W1.cell? ⟨M, 3, none⟩ = some (.slice (some ⟨g, 0, none⟩) xs.length cap) := cell_of bM1 3
  have hrow1 : ∀ k (hk : k < xs.length), W1.cell? ⟨g, k, none⟩ = some (ptrM xs[k]) := fun k hk => (ch1.cell (p := ⟨g, k, none⟩) hg (by simp; exact dgM)).trans (unhide HR k hk)
  have lM : M < W1.heap.size := lt_of_heap bM1
  have lg : g < W1.heap.size := by omega
  have CH1 := hide ch1
  have BM1 := hide bM1
  have HR1 := hide hrow1
  have HSZ := hide sz1
  clear ch1 bM1 hrow1 sz1 hW1 c3 c4 f4 hx p8 we HR
  go_upto_region 2 with (at_make; refine wpList_make_own _ rfl _ _ 46 rfl W1.heap.size 59 i59 _ 1 Tryf.underlying46 hi59 hz0 hz1 .i64 .i64 _ xs.length rfl rfl rfl (by rw [hz2]; omega) (by unfold maxLen; omega) (Nat.le_refl _) ?_; intro w2 hown hgrow)
  have hb2 : Below W1.heap.size W1 w2 := (Below.refl _ _).grown hgrow (Nat.le_refl _) (fun k hk => by cases hk)
  have HOWN := hide hown
  have HB2 := hide hb2
  have d3 : w2.cell? ⟨M, 3, none⟩ = some (.slice (some ⟨g, 0, none⟩) xs.length cap) := (hb2.cell (p := ⟨M, 3, none⟩) lM).trans d3
  clear hown hgrow hb2
  go_wp2_with fail
  go_loopg [4, 5] xs.length (fun gg rv kv w' => ∃ k : Nat, gg = xs.length - k ∧ k ≤ xs.length ∧ kv = .int .i64 (k : Int) ∧ Hid (Below W1.heap.size W1 w') ∧ Hid (w'.ownsRow W1.heap.size 59 1 rv ((xs.take k).eraseIdx i).length (((xs.take k).eraseIdx i).map ptrM)))
  case atStart => exact ⟨0, by omega, Nat.zero_le _, rfl, HB2, by rw [show (xs.take 0).eraseIdx i = [] by simp]; exact unhide HOWN⟩
  case round =>
    clear HOWN HB2
    obtain ⟨k, hgk, hk, rfl, HBW, HO⟩ := hrel
    have e3 : wr.cell? ⟨M, 3, none⟩ = some (.slice (some ⟨g, 0, none⟩) xs.length cap) := ((unhide HBW).cell (p := ⟨M, 3, none⟩) lM).trans (by assumption)
    by_cases ck : k < xs.length
    · have hx := ((unhide HBW).cell (p := ⟨g, k, none⟩) lg).trans (unhide HR1 k ck)
      unfold ptrM at hx
      have y1 : (0 : Int) ≤ (k : Int) := by omega
      have y2 : (k : Int) < (xs.length : Int) := by omega
      have y3 : IntKind.i64.wrap ((k : Int) + 1) = (k : Int) + 1 := by rw [IntKind.wrap_i64]; omega
      by_cases ci : k = i
      · subst ci
        go_wp2_with fail
        go_roundg (xs.length - (k + 1))
        case measure => omega
        case rel => exact ⟨k + 1, rfl, by omega, by simp, HBW, by rw [take_erase_eq xs k ck]; exact unhide HO⟩
      · have ci' : ¬ ((k : Int) = (i : Int)) := by omega
        have hte := take_erase_ne xs i k ck ci
        obtain ⟨L, hL⟩ : ∃ L, L = (xs.take k).eraseIdx i := ⟨_, rfl⟩
        rw [← hL] at HO hte
        have hLl : L.length ≤ xs.length := by
          rw [hL]
          have h1 := List.length_eraseIdx_le (xs.take k) i
          have h2 := List.length_take_le k xs
          have h3 := List.length_take_le' k xs
          omega
        have HTE := hide hte
        have oW : (wr.alloc (.cells #[.pointer (some ⟨(xs[k]).1, 0, none⟩)] 59)).ownsRow W1.heap.size 59 1 u4 L.length (L.map ptrM) := ownsRow_kp (unhide HO) (fun k cs e => Below.heap_alloc _ _ k (lt_of_heap e))
        have OW := hide oW
        have LW : Hid (W1.heap.size ≤ (wr.alloc (.cells #[.pointer (some ⟨(xs[k]).1, 0, none⟩)] 59)).heap.size) := Nat.le_trans (unhide HBW).size (by simp)
        clear oW hte hL
        obtain ⟨A', hA'⟩ : ∃ A', A' = (xs[k]).1 := ⟨_, rfl⟩
        rw [← hA'] at hx OW LW
        have HA' := hide hA'
        clear hA'
        go_wp2_with (at_builtin; refine wpList_append_lies _ rfl _ _ 46 rfl W1.heap.size 59 i59 _ 1 8 Tryf.underlying46 hi59 hz0 hz1 hz2 rfl (by omega) u4 L.length (L.map ptrM) rfl (unhide OW) ⟨wr.heap.size, 0, none⟩ 1 1 [.pointer (some ⟨A', 0, none⟩)] rfl rfl (World.news_of_block (cs := #[.pointer (some ⟨A', 0, none⟩)]) (t := 59) (fr := (0, 0)) (heap_alloc_new wr _)) (by simp [Value.oneCell']) (by omega) (by unfold maxLen; omega) (by omega) (unhide LW) _ rfl ?_; intro gg cap' w' hown hgrow hat hlt; have HOW := hide hown; have HGW := hide hgrow; clear hown hgrow hat hlt)
        go_roundg (xs.length - (k + 1))
        case measure => omega
        case rel =>
          refine ⟨k + 1, rfl, by omega, by simp, ?_, ?_⟩
          · refine ((unhide HBW).alloc (unhide HBW).size _).grown (unhide HGW) (unhide LW) (fun q hq => ?_)
            obtain ⟨-, ⟨e, -⟩ | ⟨g0, c0, cu, e, h1, -⟩⟩ := unhide HO
            · rw [e] at hq; cases hq
            · rw [e] at hq
              simp [Value.ownBlock] at hq; omega
          · rw [unhide HTE]
            have q := unhide HOW
            rw [unhide HA'] at q
            exact hide (by simpa [ptrM] using q)
    · obtain rfl : k = xs.length := by omega
      have y2 : ¬ ((xs.length : Int) < (xs.length : Int)) := by omega
      have f3 : wr.frozen? ⟨M, 3, none⟩ = false := froz_of (((unhide HBW).block _ lM).trans (unhide BM1)) 3
      obtain ⟨o4, n4, d4, h4⟩ := ownsRow_slice (unhide HO)
      subst h4
      go_wp2_with fail
      go_end0
      refine ⟨rfl, ⟨.slice o4 n4 d4, ?_⟩, ?_⟩
      · have bMr := ((unhide HBW).block _ lM).trans (unhide BM1)
        have ho := unhide HO
        rw [List.take_length] at ho
        have hch : Ch [M] w wr := (unhide CH1).trans (Ch.of_below (bs := []) (unhide HBW)) (by simp) (by simp)
        have hkeep : ∀ (k : Nat) (cs : Array Value) (t : TypeId), w.heap[k]? = some (.cells cs t (0, 0)) → t ≠ 48 → (wr.setCell ⟨M, 3, none⟩ (.slice o4 n4 d4)).heap[k]? = w.heap[k]? := fun k cs t e ht => by
          have hne : k ≠ M := tag_ne e (unhide H).root ht
          rw [Below.heap_setCell _ _ _ _ (by exact hne)]
          exact hch.block k (lt_of_heap e) (by simpa using hne)
        refine ⟨?_, (unhide H).base, ?_, fun x hx => ?_, List.Nodup.sublist ((List.eraseIdx_sublist _ _).map _) (unhide H).nodup⟩
        · rw [heap_setCell_row bMr 3 _]
          have e1 : sumA ((xs.eraseIdx i).map Prod.snd) = S - C := by
            rw [mapE, unhide HSE, (unhide HSC).1, (unhide HSC).2]
          rw [e1]
          rfl
        · refine ownsRow_kp (ownsRow_base ho (by have := unhide HSZ; omega)) (fun q cs e => Below.heap_setCell _ _ _ _ ?_)
          exact tag_ne e bMr (by decide)
        · have hx' := List.mem_of_mem_eraseIdx hx
          exact ⟨((unhide H).each x hx').1, ((unhide H).each x hx').2.keep (fun k cs t e ht => hkeep k cs t e (by rcases ht with rfl | rfl <;> decide))⟩
      · have hch : Ch [M] w wr := (unhide CH1).trans (Ch.of_below (bs := []) (unhide HBW)) (by simp) (by simp)
        exact hch.setCell _ _ (Or.inl (by simp))
end Go.Proofs.Qxb6612998aFmt
