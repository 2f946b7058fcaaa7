import Derived.Test.Qxb6612998aFmtNew
import Derived.Test.Qxb6612998aFmtWpg
namespace Go.Proofs.Qxb6612998aFmt
open Go.RowKit Go.Sort

theorem put_none (a : Act) (v : Value) : a.put none v = a := rfl
/-- The operations of region n. -/
def regOf (n : Nat) : Code → Option (Array Oper)
  | .region k ops _ => if k = n then some ops else none
  | .seq a b => match regOf n a with
    | some o => some o
    | none => regOf n b
  | .cond _ a b => match regOf n a with
    | some o => some o
    | none => regOf n b
  | .block _ c => regOf n c
  | .loop c => regOf n c
  | .scope c => regOf n c
  | _ => none
noncomputable def ops11 : Array Oper := match Tryf.f12.body with
  | some c => (regOf 11 c).getD #[]
  | none => #[]

set_option maxHeartbeats 4000000 in
set_option maxRecDepth 20000 in
set_option linter.unusedSimpArgs false in
theorem reg11 {K : Act → World → Prop} {Q' : Exit → Act → World → Prop} (hQ' : ∀ c (a : Act) d v w, Q' (.panic c) (a.put d v) w → Q' (.panic c) a w) (a : Act) (wy : World) (K0 M Bx : Nat) (mx lt lim : Int) (xs2 : List MM) (s : Stp) (oa : Option Addr) (dc : Nat) (o2 : Option Addr) (c2 : Nat)
    (e0 : a.eval (.tmp 0) = .pointer (some ⟨M, 0, none⟩)) (e3 : a.eval (.tmp 3) = .pointer (some ⟨Bx, 0, none⟩)) (e7 : a.eval (.tmp 7) = .bool (defl s.flags)) (hsz : a.tmps.size = 259)
    (R5 : RepM wy K0 M mx lt lim (.slice o2 xs2.length c2) xs2) (BB5 : wy.heap[Bx]? = some (.cells (box37 s oa dc) 37 (0, 0))) (hK5 : K0 ≤ wy.heap.size) (hsm : xs2.length ≤ 1099511627776)
    (hk : ∀ (w10 : World) (g cap : Nat), (w10.os = wy.os ∧ w10.tape = wy.tape ∧ w10.output = wy.output ∧ wy.heap.size ≤ w10.heap.size) → (∀ k, k < wy.heap.size → some k ≠ (Value.slice o2 xs2.length c2).ownBlock → w10.heap[k]? = wy.heap[k]?) → w10.ownsRow K0 59 1 (.slice (some ⟨g, 0, none⟩) (xs2.length + 1) cap) (xs2.length + 1) (xs2.map ptrM ++ [.pointer (some ⟨wy.heap.size, 0, none⟩)]) → w10.heap[wy.heap.size]? = some (.cells (z58 s.port s.seq (defl s.flags) s.parts s.now) 58 (0, 0)) → K ((((((((((((((((((((a.put (some 95) (.pointer (some ⟨M, 0, none⟩))).put (some 96) (.pointer (some ⟨M, 0, none⟩))).put (some 97) (.pointer (some ⟨M, 0, none⟩))).put (some 98) (.pointer (some ⟨M, 3, none⟩))).put (some 99) (.slice o2 xs2.length c2)).put (some 100) (.pointer (some ⟨Bx, 0, none⟩))).put (some 101) (.int .u16 s.port)).put (some 102) (.pointer (some ⟨Bx, 2, none⟩))).put (some 103) (.int .u16 s.seq)).put (some 104) (.bool (defl s.flags))).put (some 105) (.pointer (some ⟨Bx, 4, none⟩))).put (some 106) (.int .i64 s.parts)).put (some 107) (.pointer (some ⟨Bx, 6, none⟩))).put (some 108) (.int .i64 s.now)).put (some 109) (.agg (z58 s.port s.seq (defl s.flags) s.parts s.now))).put (some 110) (.pointer (some ⟨wy.heap.size, 0, none⟩))).put (some 111) (.slice (some ⟨wy.heap.size + 1, 0, none⟩) 1 1)).put (some 112) (.slice (some ⟨g, 0, none⟩) (xs2.length + 1) cap)).put (some 113) (.pointer (some ⟨M, 0, none⟩))).put (some 114) (.pointer (some ⟨M, 3, none⟩))) (w10.setCell ⟨M, 3, none⟩ (.slice (some ⟨g, 0, none⟩) (xs2.length + 1) cap))) :
    Code.wp Tryf.prog (Code.region 11 ops11 true) (Exit.then K Q') a wy := by
  have hbd := run58 s.port s.seq (defl s.flags) s.parts s.now
  obtain ⟨Z, hZ⟩ : ∃ Z, Z = z58 s.port s.seq (defl s.flags) s.parts s.now := ⟨_, rfl⟩
  rw [← hZ] at hbd hk
  obtain ⟨S, hS⟩ : ∃ S : World → Prop, S = fun w' => w'.cell? ⟨M, 3, none⟩ = some (.slice o2 xs2.length c2) ∧ w'.cell? ⟨Bx, 0, none⟩ = some (.int .u16 s.port) ∧ w'.cell? ⟨Bx, 2, none⟩ = some (.int .u16 s.seq) ∧ w'.cell? ⟨Bx, 4, none⟩ = some (.int .i64 s.parts) ∧ w'.cell? ⟨Bx, 6, none⟩ = some (.int .i64 s.now) := ⟨_, rfl⟩
  have HSW : S wy.drew := by
    rw [hS]
    exact ⟨cell_of R5.root 3, cell_of BB5 0, cell_of BB5 2, cell_of BB5 4, cell_of BB5 6⟩
  have SD : ∀ W, S W → W.cell? ⟨M, 3, none⟩ = some (.slice o2 xs2.length c2) ∧ W.cell? ⟨Bx, 0, none⟩ = some (.int .u16 s.port) ∧ W.cell? ⟨Bx, 2, none⟩ = some (.int .u16 s.seq) ∧ W.cell? ⟨Bx, 4, none⟩ = some (.int .i64 s.parts) ∧ W.cell? ⟨Bx, 6, none⟩ = some (.int .i64 s.now) := fun W h => by rw [hS] at h; exact h
  have SI : ∀ W, W.cell? ⟨M, 3, none⟩ = some (.slice o2 xs2.length c2) ∧ W.cell? ⟨Bx, 0, none⟩ = some (.int .u16 s.port) ∧ W.cell? ⟨Bx, 2, none⟩ = some (.int .u16 s.seq) ∧ W.cell? ⟨Bx, 4, none⟩ = some (.int .i64 s.parts) ∧ W.cell? ⟨Bx, 6, none⟩ = some (.int .i64 s.now) → S W := fun W h => by rw [hS]; exact h
  obtain ⟨i59, hi59, hz0, hz1, hz2⟩ := info_parts info59
  have lM5 : M < wy.heap.size := lt_of_heap R5.root
  have lB5 : Bx < wy.heap.size := lt_of_heap BB5
  have hmo : Tryf.prog.follows .mixedOrders = true := hmo
  clear hS hZ
  unfold ops11
  simp only [Tryf.f12, regOf, reduceIte, Nat.reduceEqDiff, Option.getD_some]
  refine wp_region_G (S := S) 21 #[false, false, false, false, false, false, false, false, false, false, false, false, false, false, false, false, false, false, false, false, false] (by rfl) (by rfl) hmo ?_
  refine wpG_take (i := 0) #[true, false, false, false, false, false, false, false, false, false, false, false, false, false, false, false, false, false, false, false, false] rfl (by rfl) (by kernel_rfl) (by kernel_rfl) (by kernel_rfl) (fun c a w h => hQ' c a _ _ w h) (by rfl) HSW (hy_move (v := .pointer (some ⟨M, 0, none⟩)) rfl (by simp [ev_other, ev_same, ev_const, sz_put, hsz, e0, e3, e7])) ?_
  refine wpG_take (i := 1) #[true, true, false, false, false, false, false, false, false, false, false, false, false, false, false, false, false, false, false, false, false] rfl (by rfl) (by kernel_rfl) (by kernel_rfl) (by kernel_rfl) (fun c a w h => hQ' c a _ _ w h) (by rfl) HSW (hy_move (v := .pointer (some ⟨M, 0, none⟩)) rfl (by simp [ev_other, ev_same, ev_const, sz_put, hsz, e0, e3, e7])) ?_
  refine wpG_take (i := 2) #[true, true, true, false, false, false, false, false, false, false, false, false, false, false, false, false, false, false, false, false, false] rfl (by rfl) (by kernel_rfl) (by kernel_rfl) (by kernel_rfl) (fun c a w h => hQ' c a _ _ w h) (by rfl) HSW (hy_nil (ad := ⟨M, 0, none⟩) rfl (by simp [ev_other, ev_same, ev_const, sz_put, hsz, e0, e3, e7])) ?_
  refine wpG_take (i := 3) #[true, true, true, true, false, false, false, false, false, false, false, false, false, false, false, false, false, false, false, false, false] rfl (by rfl) (by kernel_rfl) (by kernel_rfl) (by kernel_rfl) (fun c a w h => hQ' c a _ _ w h) (by rfl) HSW (hy_field (u := .pointer (some ⟨M, 0, none⟩)) rfl (by simp [ev_other, ev_same, ev_const, sz_put, hsz, e0, e3, e7]) (fa48_3 M)) ?_
  refine wpG_take (i := 4) #[true, true, true, true, true, false, false, false, false, false, false, false, false, false, false, false, false, false, false, false, false] rfl (by rfl) (by kernel_rfl) (by kernel_rfl) (by kernel_rfl) (fun c a w h => hQ' c a _ _ w h) (by rfl) HSW (hy_load (u := .pointer (some ⟨M, 3, none⟩)) rfl (by simp [ev_other, ev_same, ev_const, sz_put, hsz, e0, e3, e7]) (fun W HW => ld46 M 3 o2 xs2.length c2 W (SD W HW).1)) ?_
  refine wpG_take (i := 5) #[true, true, true, true, true, true, false, false, false, false, false, false, false, false, false, false, false, false, false, false, false] rfl (by rfl) (by kernel_rfl) (by kernel_rfl) (by kernel_rfl) (fun c a w h => hQ' c a _ _ w h) (by rfl) HSW (hy_field (u := .pointer (some ⟨Bx, 0, none⟩)) rfl (by simp [ev_other, ev_same, ev_const, sz_put, hsz, e0, e3, e7]) (fa37_0 Bx)) ?_
  refine wpG_take (i := 6) #[true, true, true, true, true, true, true, false, false, false, false, false, false, false, false, false, false, false, false, false, false] rfl (by rfl) (by kernel_rfl) (by kernel_rfl) (by kernel_rfl) (fun c a w h => hQ' c a _ _ w h) (by rfl) HSW (hy_load (u := .pointer (some ⟨Bx, 0, none⟩)) rfl (by simp [ev_other, ev_same, ev_const, sz_put, hsz, e0, e3, e7]) (fun W HW => ld31 Bx 0 s.port W (SD W HW).2.1)) ?_
  refine wpG_take (i := 7) #[true, true, true, true, true, true, true, true, false, false, false, false, false, false, false, false, false, false, false, false, false] rfl (by rfl) (by kernel_rfl) (by kernel_rfl) (by kernel_rfl) (fun c a w h => hQ' c a _ _ w h) (by rfl) HSW (hy_field (u := .pointer (some ⟨Bx, 0, none⟩)) rfl (by simp [ev_other, ev_same, ev_const, sz_put, hsz, e0, e3, e7]) (fa37_2 Bx)) ?_
  refine wpG_take (i := 8) #[true, true, true, true, true, true, true, true, true, false, false, false, false, false, false, false, false, false, false, false, false] rfl (by rfl) (by kernel_rfl) (by kernel_rfl) (by kernel_rfl) (fun c a w h => hQ' c a _ _ w h) (by rfl) HSW (hy_load (u := .pointer (some ⟨Bx, 2, none⟩)) rfl (by simp [ev_other, ev_same, ev_const, sz_put, hsz, e0, e3, e7]) (fun W HW => ld31 Bx 2 s.seq W (SD W HW).2.2.1)) ?_
  refine wpG_take (i := 9) #[true, true, true, true, true, true, true, true, true, true, false, false, false, false, false, false, false, false, false, false, false] rfl (by rfl) (by kernel_rfl) (by kernel_rfl) (by kernel_rfl) (fun c a w h => hQ' c a _ _ w h) (by rfl) HSW (hy_move (v := .bool (defl s.flags)) rfl (by simp [ev_other, ev_same, ev_const, sz_put, hsz, e0, e3, e7])) ?_
  refine wpG_take (i := 10) #[true, true, true, true, true, true, true, true, true, true, true, false, false, false, false, false, false, false, false, false, false] rfl (by rfl) (by kernel_rfl) (by kernel_rfl) (by kernel_rfl) (fun c a w h => hQ' c a _ _ w h) (by rfl) HSW (hy_field (u := .pointer (some ⟨Bx, 0, none⟩)) rfl (by simp [ev_other, ev_same, ev_const, sz_put, hsz, e0, e3, e7]) (fa37_4 Bx)) ?_
  refine wpG_take (i := 11) #[true, true, true, true, true, true, true, true, true, true, true, true, false, false, false, false, false, false, false, false, false] rfl (by rfl) (by kernel_rfl) (by kernel_rfl) (by kernel_rfl) (fun c a w h => hQ' c a _ _ w h) (by rfl) HSW (hy_load (u := .pointer (some ⟨Bx, 4, none⟩)) rfl (by simp [ev_other, ev_same, ev_const, sz_put, hsz, e0, e3, e7]) (fun W HW => ld3 Bx 4 s.parts W (SD W HW).2.2.2.1)) ?_
  refine wpG_take (i := 12) #[true, true, true, true, true, true, true, true, true, true, true, true, true, false, false, false, false, false, false, false, false] rfl (by rfl) (by kernel_rfl) (by kernel_rfl) (by kernel_rfl) (fun c a w h => hQ' c a _ _ w h) (by rfl) HSW (hy_field (u := .pointer (some ⟨Bx, 0, none⟩)) rfl (by simp [ev_other, ev_same, ev_const, sz_put, hsz, e0, e3, e7]) (fa37_6 Bx)) ?_
  refine wpG_take (i := 13) #[true, true, true, true, true, true, true, true, true, true, true, true, true, true, false, false, false, false, false, false, false] rfl (by rfl) (by kernel_rfl) (by kernel_rfl) (by kernel_rfl) (fun c a w h => hQ' c a _ _ w h) (by rfl) HSW (hy_load (u := .pointer (some ⟨Bx, 6, none⟩)) rfl (by simp [ev_other, ev_same, ev_const, sz_put, hsz, e0, e3, e7]) (fun W HW => ld2 Bx 6 s.now W (SD W HW).2.2.2.2)) ?_
  refine wpG_take (i := 14) #[true, true, true, true, true, true, true, true, true, true, true, true, true, true, true, false, false, false, false, false, false] rfl (by rfl) (by kernel_rfl) (by kernel_rfl) (by kernel_rfl) (fun c a w h => hQ' c a _ _ w h) (by rfl) HSW (hy_build (us := #[(0, .int .u16 s.port), (1, .int .u16 s.seq), (2, .bool (defl s.flags)), (3, .int .i64 s.parts), (8, .int .i64 256), (9, .int .i64 s.now)]) rfl (by simp [ev_other, ev_same, ev_const, sz_put, hsz, e0, e3, e7]) hbd) ?_
  obtain ⟨W1, hW1⟩ : ∃ W, W = wy.drew.alloc (.cells Z 58) := ⟨_, rfl⟩
  obtain ⟨W2, hW2⟩ : ∃ W, W = W1.alloc (.cells #[.pointer (some ⟨wy.heap.size, 0, none⟩)] 59) := ⟨_, rfl⟩
  have gr1 : Gr wy W1 := by rw [hW1]; exact (Gr.refl wy).drew.alloc _
  have gr2 : Gr wy W2 := by rw [hW2]; exact gr1.alloc _
  have SW1 : S W1 := SI W1 ⟨gr1.cell (p := ⟨M, 3, none⟩) lM5 (SD _ HSW).1, gr1.cell (p := ⟨Bx, 0, none⟩) lB5 (SD _ HSW).2.1, gr1.cell (p := ⟨Bx, 2, none⟩) lB5 (SD _ HSW).2.2.1, gr1.cell (p := ⟨Bx, 4, none⟩) lB5 (SD _ HSW).2.2.2.1, gr1.cell (p := ⟨Bx, 6, none⟩) lB5 (SD _ HSW).2.2.2.2⟩
  have SW2 : S W2 := SI W2 ⟨gr2.cell (p := ⟨M, 3, none⟩) lM5 (SD _ HSW).1, gr2.cell (p := ⟨Bx, 0, none⟩) lB5 (SD _ HSW).2.1, gr2.cell (p := ⟨Bx, 2, none⟩) lB5 (SD _ HSW).2.2.1, gr2.cell (p := ⟨Bx, 4, none⟩) lB5 (SD _ HSW).2.2.2.1, gr2.cell (p := ⟨Bx, 6, none⟩) lB5 (SD _ HSW).2.2.2.2⟩
  have sz1 : W1.heap.size = wy.heap.size + 1 := by
    rw [hW1]
    have q : (wy.drew.alloc (.cells Z 58)).heap.size = wy.drew.heap.size + 1 := by simp
    exact q
  have oW2 : W2.ownsRow K0 59 1 (.slice o2 xs2.length c2) xs2.length (xs2.map ptrM) := ownsRow_kp R5.own (fun k cs e => gr2.below.block k (lt_of_heap e))
  have zW2 : W2.heap[wy.heap.size]? = some (.cells Z 58 (0, 0)) := by
    rw [hW2, Below.heap_alloc _ _ _ (by omega), hW1]; exact heap_alloc_new wy.drew _
  have nW2 : W2.heap[wy.heap.size + 1]? = some (.cells #[.pointer (some ⟨wy.heap.size, 0, none⟩)] 59 (0, 0)) := by rw [hW2, ← sz1]; exact heap_alloc_new W1 _
  refine wpG_keep (j := 15) #[true, true, true, true, true, true, true, true, true, true, true, true, true, true, true, true, false, false, false, false, false] rfl (by rfl) (by kernel_rfl) ?_
  intro K' hK
  rw [if_pos (by rfl)]
  refine wp_val (v := .pointer (some ⟨wy.heap.size, 0, none⟩)) (w' := W1) (ex_box (u := .agg Z) rfl (by simp [ev_other, ev_same, sz_put, hsz]) (by rw [hW1]; exact bx58 Z _)) ?_
  refine hK _ _ SW1 ?_
  clear hK K'
  refine wpG_keep (j := 16) #[true, true, true, true, true, true, true, true, true, true, true, true, true, true, true, true, true, false, false, false, false] rfl (by rfl) (by kernel_rfl) ?_
  intro K' hK
  rw [if_pos (by rfl)]
  refine wp_val (v := .slice (some ⟨wy.heap.size + 1, 0, none⟩) 1 1) (w' := W2) (ex_slice (us := #[(0, .pointer (some ⟨wy.heap.size, 0, none⟩))]) rfl (by simp [ev_other, ev_same, sz_put, hsz]) (by rw [hW2, ← sz1]; exact bs46 _ _)) ?_
  refine hK _ _ SW2 ?_
  clear hK K'
  refine wpG_keep (j := 17) #[true, true, true, true, true, true, true, true, true, true, true, true, true, true, true, true, true, true, false, false, false] rfl (by rfl) (by kernel_rfl) ?_
  intro K' hK
  rw [if_pos (by rfl)]
  refine wp_append_lies _ (.tmp 99) (.tmp 111) 46 rfl K0 59 i59 _ 1 8 Tryf.underlying46 hi59 hz0 hz1 hz2 rfl (by omega) (.slice o2 xs2.length c2) xs2.length (xs2.map ptrM) (by simp [ev_other, ev_same, sz_put, hsz]) oW2 ⟨wy.heap.size + 1, 0, none⟩ 1 1 [.pointer (some ⟨wy.heap.size, 0, none⟩)] (by simp [ev_other, ev_same, sz_put, hsz]) rfl (World.news_of_block (cs := #[.pointer (some ⟨wy.heap.size, 0, none⟩)]) (t := 59) (fr := (0, 0)) nW2) (by simp [Value.oneCell']) (by omega) (by unfold maxLen; omega) (by omega) (Nat.le_trans hK5 gr2.size) _ rfl ?_
  intro g cap w10 hown hgrow hat hlt
  have hownO := ownM R5.own
  have nM : some M ≠ (Value.slice o2 xs2.length c2).ownBlock := fun e => by
    obtain ⟨-, cs, e1⟩ := hownO M e.symm
    exact tag_ne R5.root e1 (by decide) rfl
  have a2 : ∀ k, k < wy.heap.size → some k ≠ (Value.slice o2 xs2.length c2).ownBlock → w10.heap[k]? = wy.heap[k]? := fun k hk hne => (hgrow.block k (Nat.lt_of_lt_of_le hk gr2.size) hne).trans (gr2.below.block k hk)
  have bM10 := (a2 M lM5 nM).trans R5.root
  have nB : some Bx ≠ (Value.slice o2 xs2.length c2).ownBlock := fun e => by
    obtain ⟨-, cs, e1⟩ := hownO _ e.symm
    exact tag_ne BB5 e1 (by decide) rfl
  have bB10 := (a2 _ lB5 nB).trans BB5
  have SW10 : S w10 := SI w10 ⟨cell_of bM10 3, cell_of bB10 0, cell_of bB10 2, cell_of bB10 4, cell_of bB10 6⟩
  refine hK _ _ SW10 ?_
  clear hK K'
  have zA : w10.heap[wy.heap.size]? = some (.cells Z 58 (0, 0)) := by
    rw [hgrow.block _ (lt_of_heap zW2) (fun e => ?_)]
    · exact zW2
    · obtain ⟨-, cs, e1⟩ := hownO _ e.symm
      have := lt_of_heap e1
      omega
  refine wpG_last3 (j1 := 18) (j2 := 19) (j3 := 20) #[true, true, true, true, true, true, true, true, true, true, true, true, true, true, true, true, true, true, true, false, false] #[true, true, true, true, true, true, true, true, true, true, true, true, true, true, true, true, true, true, true, true, false] #[true, true, true, true, true, true, true, true, true, true, true, true, true, true, true, true, true, true, true, true, true] rfl rfl rfl rfl rfl rfl (by rfl) (by rfl) (by rfl) ?r1 ?r2 ?r3 ?r4 ?no SW10
    (hy_nil (S := fun _ => True) (x := .tmp 95) (ad := ⟨M, 0, none⟩) rfl (by simp [ev_other, ev_same, sz_put, hsz]) w10 trivial)
    (hy_field (S := fun _ => True) (x := .tmp 113) (u := .pointer (some ⟨M, 0, none⟩)) rfl (by simp [ev_other, ev_same, sz_put, hsz]) (fa48_3 M) w10 trivial)
    (ex_store (x := .tmp 114) (y := .tmp 112) (u := .pointer (some ⟨M, 3, none⟩)) (v := .slice (some ⟨g, 0, none⟩) (xs2.length + 1) cap) rfl (by simp [ev_other, ev_same, sz_put, hsz]) (by simp [ev_other, ev_same, sz_put, hsz]) (st46 M 3 _ _ _ _ w10 (cell_of bM10 3) (froz_of bM10 3))) ?q
  case r1 => simp [Region.ready, Region.binds, List.range, List.range.loop]
  case r2 => simp [Region.ready, Region.binds, List.range, List.range.loop]
  case r3 => simp [Region.ready, Region.binds, List.range, List.range.loop]
  case r4 => simp [Region.ready, Region.binds, List.range, List.range.loop]
  case no => simp [Region.ready, Region.binds, List.range, List.range.loop]
  case q =>
    have hb := gr2.below
    have hfin := hk w10 g cap ⟨hgrow.os.trans hb.os, hgrow.tape.trans hb.tape, hgrow.output.trans hb.output, Nat.le_trans hb.size hgrow.size⟩ a2 (by simpa using hown) zA
    clear hk
    simp only [List.getElem_toArray, List.getElem_cons_zero, List.getElem_cons_succ, put_none]
    exact hfin
end Go.Proofs.Qxb6612998aFmt
