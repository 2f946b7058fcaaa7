import Derived.Test.Qxb6612998aFmtMmd
namespace Go.Proofs.Qxb6612998aFmt
open Go.RowKit Go.Sort

set_option maxHeartbeats 8000000 in
set_option maxRecDepth 20000 in
set_option linter.unusedSimpArgs false in
theorem mstep_any (w : World) (K0 M : Nat) (mx lt lim : Int) (mv : Value) (xs : List MM) (s : Stp) (oa : Option Addr) (dc : Nat) (B : Int) (hK0 : K0 ≤ w.heap.size) (h : RepM w K0 M mx lt lim mv xs) (hok : okA (xs.map Prod.snd) B) (hB : B ≤ 8388608) (hs : okP s) (hv : BI w K0 (.slice oa s.data.length dc) s.data) :
    Calls Tryf.prog 12 #[.pointer (some ⟨M, 0, none⟩), .agg (box37 s oa dc)] w (MStep w K0 M mx lt lim (stepA mx lt lim (xs.map Prod.snd) s)) := by
  obtain ⟨W0, hW0⟩ : ∃ W, W = w.alloc (.cells (box37 s oa dc) 37) := ⟨_, rfl⟩
  have hb0 : Below w.heap.size w W0 := by rw [hW0]; exact (Below.refl _ _).alloc (Nat.le_refl _) _
  have kB : W0.heap[w.heap.size]? = some (.cells (box37 s oa dc) 37 (0, 0)) := by rw [hW0]; exact heap_alloc_new _ _
  have FR0 : Hid (FrM K0 w W0) := FrM.of_below hb0 hK0
  have R0 : Hid (RepM W0 K0 M mx lt lim mv xs) := h.below hb0
  have HW0 := hide hW0
  have BB0 := hide kB
  have OK0 := hide hok
  have HS := hide hs
  have HV := hide hv
  have HK0 := hide (And.intro hK0 hB)
  have hmo : Tryf.prog.follows .mixedOrders = true := hmo
  clear h hok hs hv hW0 kB hb0 hK0 hB
  unfold box37 at HW0 ⊢
  go_enter Tryf.func12, Tryf.ntmps12
  go_upto_block 0 with fail
  rw [← unhide HW0]
  go_cut [] from 12 to 39 (fun w' => Hid (∃ mv1 xs1, RepM w' K0 M mx lt lim mv1 xs1 ∧ xs1.map Prod.snd = (xs.map Prod.snd).dropWhile (oldA s.now lt) ∧ FrM K0 w w' ∧ w'.heap[w.heap.size]? = some (.cells (box37 s oa dc) 37 (0, 0))))
  case first => -- DONE
    go_wp2_with fail
    go_loopg [] xs.length (fun g w' => ∃ mv' xs', g = xs'.length ∧ Hid (RepM w' K0 M mx lt lim mv' xs') ∧ Hid (okA (xs'.map Prod.snd) B) ∧ Hid ((xs'.map Prod.snd).dropWhile (oldA s.now lt) = (xs.map Prod.snd).dropWhile (oldA s.now lt)) ∧ Hid (FrM K0 w w') ∧ Hid (w'.heap[w.heap.size]? = some (.cells (box37 s oa dc) 37 (0, 0))))
    case atStart => exact ⟨mv, xs, rfl, R0, OK0, rfl, FR0, BB0⟩
    case round =>
      clear R0 FR0 BB0
      obtain ⟨mv', xs', hg, HR, HK, HD, HF, HBB⟩ := hrel
      have HG := hide hg
      clear hg
      cases xs' with
      | nil =>
        obtain ⟨oa', c', rfl⟩ := (unhide HR).shape
        have b3 : ∀ n, (wr.drewN n).cell? ⟨M, 3, none⟩ = some (.slice oa' 0 c') := fun _ => cell_of (unhide HR).root 3
        go_wp2_with fail
        go_quiet (fail)
        have HG2 : Hid (Below wr.heap.size wr (wr.drewN nq)) := Gr.below ((Gr.refl wr).drewN nq)
        go_wp2_with fail
        go_meet
        case rel =>
          have hF2 := (unhide HF).trans (FrM.of_below (unhide HG2) (Nat.le_trans (unhide HK0).1 (unhide HF).below.size))
          exact ⟨_, [], (unhide HR).below (unhide HG2), unhide HD, hF2, ((unhide HG2).block _ (lt_of_heap (unhide HBB))).trans (unhide HBB)⟩
      | cons x r =>
        obtain ⟨g, cap, rfl, hgl, -, hrow⟩ := (unhide HR).row (by simp)
        have hr0 := hrow 0 (by simp)
        obtain ⟨cs, hcs, hmc⟩ := ((unhide HR).each x (by simp)).2
        obtain ⟨n, hn⟩ : ∃ n, n = (x :: r).length := ⟨_, rfl⟩
        have b3 : ∀ k, (wr.drewN k).cell? ⟨M, 3, none⟩ = some (.slice (some ⟨g, 0, none⟩) n cap) := fun _ => by rw [hn]; exact cell_of (unhide HR).root 3
        have b1 : ∀ k, (wr.drewN k).cell? ⟨M, 1, none⟩ = some (.int .i64 lt) := fun _ => cell_of (unhide HR).root 1
        have b0 : ∀ k, (wr.drewN k).cell? ⟨g, 0, none⟩ = some (.pointer (some ⟨x.1, 0, none⟩)) := fun _ => hr0
        have b9 : ∀ k, (wr.drewN k).cell? ⟨x.1, 519, none⟩ = some (.int .i64 x.2.started) := fun _ => (cell_of hcs 519).trans hmc.started
        have b6 : ∀ k, (wr.drewN k).cell? ⟨w.heap.size, 6, none⟩ = some (.int .i64 s.now) := fun _ => cell_of (unhide HBB) 6
        have hst : ok64 x.2.started := ((unhide HK).each x.2 (by simp)).started
        have K21 : Hid (∀ W, Calls Tryf.prog 21 #[.int .i64 s.now, .int .i64 x.2.started] W fun e w' => e = .returned (.int .i64 (satd (s.now - x.2.started))) ∧ w' = W) := fun W => satSub_any s.now x.2.started W (unhide HS).now hst
        have z1 : (0 : Int) < (n : Int) := by rw [hn]; simp
        have z2 : 0 < n := by omega
        have z0 : decide (0 < n) = true := by simp [z2]
        have K16 : Hid (∀ W, RepM W K0 M mx lt lim (.slice (some ⟨g, 0, none⟩) (x :: r).length cap) (x :: r) → K0 ≤ W.heap.size → Calls Tryf.prog 16 #[.pointer (some ⟨M, 0, none⟩), .int .i64 0] W fun e w' => e = .returned (.tuple #[]) ∧ ∃ mv', RepM w' K0 M mx lt lim mv' r ∧ Ch [M] W w') := fun W hW hWK => by
          have hsm := (unhide HK).small (by have := (unhide HK0).2; omega)
          rw [List.length_map] at hsm
          exact remove_any hW 0 (by simp) hsm.1 hsm.2.1 hWK
        obtain ⟨sd, hsd⟩ : ∃ sd, satd (s.now - x.2.started) = sd := ⟨_, rfl⟩
        rw [hsd] at K21
        have HSD := hide hsd
        have HN := hide hn
        clear hrow hr0 hcs hmc hst hsd hgl hn
        by_cases c : sd < lt
        · have cd : decide (sd < lt) = true := by simp [c]
          go_wp2_with fail
          go_quiet (first | (go_at_call 21; refine Calls.quiet_of_same (unhide K21 _)))
          have HG2 : Hid (Below wr.heap.size wr (wr.drewN nq)) := Gr.below ((Gr.refl wr).drewN nq)
          go_wp2_with fail
          go_meet
          case rel =>
            have hF2 := (unhide HF).trans (FrM.of_below (unhide HG2) (Nat.le_trans (unhide HK0).1 (unhide HF).below.size))
            refine ⟨_, x :: r, (unhide HR).below (unhide HG2), ?_, hF2, ((unhide HG2).block _ (lt_of_heap (unhide HBB))).trans (unhide HBB)⟩
            rw [← unhide HD, List.map_cons, List.dropWhile_cons_of_neg]
            simp [oldA, unhide HSD, c]
        · have cd : decide (sd < lt) = false := by simp [c]
          go_wp2_with fail
          go_quiet (first | (go_at_call 21; refine Calls.quiet_of_same (unhide K21 _)))
          have HG2 : Hid (Below wr.heap.size wr (wr.drewN nq)) := Gr.below ((Gr.refl wr).drewN nq)
          obtain ⟨wq, hwq⟩ : ∃ wq, wq = wr.drewN nq := ⟨_, rfl⟩
          rw [← hwq] at HG2 ⊢
          have K16' := hide (unhide K16 wq ((unhide HR).below (unhide HG2)) (Nat.le_trans (unhide HK0).1 (Nat.le_trans (unhide HF).below.size (unhide HG2).size)))
          clear hwq b3 b1 b0 b9 b6
          go_wp2_with (go_at_call 16; refine Calls.mono (unhide K16') ?_; rintro e w9 ⟨rfl, h9⟩; have H9 := hide h9; clear h9)
          go_roundg r.length
          case measure => rw [unhide HG]; simp
          case rel =>
            obtain ⟨mv9, r9, c9⟩ := unhide H9
            have hq := (unhide HF).trans (FrM.of_below (unhide HG2) (Nat.le_trans (unhide HK0).1 (unhide HF).below.size))
            have hF9 := hq.trans (FrM.of_remove ((unhide HR).below (unhide HG2)) c9 (Nat.le_trans (unhide HK0).1 hq.below.size))
            have hq9 := (FrM.of_below (unhide HG2) (Nat.le_trans (unhide HK0).1 (unhide HF).below.size)).trans (FrM.of_remove ((unhide HR).below (unhide HG2)) c9 (Nat.le_trans (unhide HK0).1 hq.below.size))
            refine ⟨mv9, r, rfl, r9, (unhide HK).sl (by simp), ?_, hF9, hq9.cells (unhide HBB) (by decide)⟩
            show _ = _
            rw [← unhide HD, List.map_cons, List.dropWhile_cons_of_pos]
            simp [oldA, unhide HSD, c]
  case rest =>
    rename World => w1
    obtain ⟨mv1, xs1, r1, e1, fr1, bb1⟩ := unhide hcut
    have STE : stepA mx lt lim (xs.map Prod.snd) s = restA mx lim (pickA (xs1.map Prod.snd) s) s := by rw [stepA_rest, ← e1]
    have OK1 : okA (xs1.map Prod.snd) B := by rw [e1]; exact (unhide OK0).sl (List.dropWhile_sublist _)
    clear hcut e1 R0 FR0 BB0 OK0 HW0
    rename ∀ (a : Act) (w1 : World), Code.wp Tryf.prog _ _ a w1 → _ => hKK
    refine hKK _ _ ?_
    clear hKK
    exact mmid2 w w1 K0 M mx lt lim mv1 xs1 s oa dc B (unhide HK0).1 (unhide HK0).2 (unhide HS) (unhide HV) r1 OK1 fr1 bb1 _ STE _ _ _ _ _ _ _ _ _ _ _ _ _ _ _ _ _ _ _ _ _ _ _ _ _ _ _ _ _ _ _ _ _ _ _ _ _ _ _ _ _ _ _ _ _ _ _ _ _ _ _ _ _ _ _ _ _ _ _ _ _ _ _ _ _ _ _ _ _ _ _ _ _ _ _ _ _ _ _ _ _ _ _ _ _ _ _ _ _ _ _ _ _ _ _ _ _ _ _ _ _ _ _ _ _ _ _ _ _ _ _ _ _ _ _ _ _ _ _ _ _ _ _ _ _ _ _ _ _ _ _ _ _ _ _ _ _ _ _ _ _ _ _ _ _ _ _ _ _ _ _ _ _ _ _ _ _ _ _ _ _ _ _ _ _ _ _ _ _ _ _ _ _ _ _ _ _ _ _ _ _ _ _ _ _ _ _ _ _ _ _ _ _ _ _ _ _ _ _ _ _ _ _ _ _ _ _ _ _ _ _ _ _ _ _ _ _ _ _ _ _ _ _ _ _ _ _ _ _ _ _ _ _ _ _ _ _ _ _ _ _ _ _ _ _ _ _ _ _ _ _ _ _ rfl
end Go.Proofs.Qxb6612998aFmt
