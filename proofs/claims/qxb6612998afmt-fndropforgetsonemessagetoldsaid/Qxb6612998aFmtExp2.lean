import Derived.Test.Qxb6612998aFmtExp
namespace Go.Proofs.Qxb6612998aFmt
open Go.RowKit Go.Sort

theorem Kp.refl (w : World) : Kp w w := fun _ _ _ _ _ _ => rfl
theorem Kp.trans {a b c : World} (h : Kp a b) (h' : Kp b c) : Kp a c := fun k cs t e e1 e2 => by
  have x := h k cs t e e1 e2
  exact (h' k cs t (x.trans e) e1 e2).trans x
theorem Kp.of_below {a b : World} (h : Below a.heap.size a b) : Kp a b := fun k _ _ e _ _ => h.block k (lt_of_heap e)
theorem RepR.below {w w' : World} {K0 R : Nat} {mx lt lim : Int} {ms : List Msg} (h : RepR w K0 R mx lt lim ms) (hb : Below w.heap.size w w') : RepR w' K0 R mx lt lim ms := by
  have hs : ∀ (k : Nat) (o : Obj), w.heap[k]? = some o → w'.heap[k]? = some o := fun k o e => (hb.block k (lt_of_heap e)).trans e
  obtain ⟨hK, ⟨h0, h1⟩ | ⟨r, clock, ho, hr, hm, hKr, hKe, hp⟩⟩ := h
  · exact ⟨hK, Or.inl ⟨h0, hs _ _ h1⟩⟩
  · exact ⟨hK, Or.inr ⟨r, clock, hs _ _ ho, ⟨hr.1, hr.2.1, fun i h => hs _ _ (hr.getE i h)⟩, hs _ _ hm, hKr, hKe, fun m hm' => (hp m hm').kp (Kp.of_below hb)⟩⟩
/-- What Front answers. -/
def front (ms : List Msg) : Option Addr := match ms with
  | [] => none
  | m :: _ => some ⟨m.eA, 0, none⟩
theorem RepR.root {w : World} {K0 R : Nat} {mx lt lim : Int} {ms : List Msg} (h : RepR w K0 R mx lt lim ms) : ∃ mp rn rp, Root w R mx lt lim mp rn rp (ms.length : Int) (sumC ms) ∧ (ms ≠ [] → rn = front ms) := by
  obtain ⟨hK, ⟨rfl, h1⟩ | ⟨r, clock, ho, -⟩⟩ := h
  · exact ⟨none, none, none, h1, fun h => absurd rfl h⟩
  · refine ⟨_, _, _, ho, fun hne => ?_⟩
    cases ms with
    | nil => exact absurd rfl hne
    | cons m r => rfl
theorem frontRep {w : World} {K0 R : Nat} {mx lt lim : Int} {ms : List Msg} (h : RepR w K0 R mx lt lim ms) :
    Calls Tryf.prog 45 #[.pointer (some ⟨R, 4, none⟩)] w fun e w' => e = .returned (.pointer (front ms)) ∧ w' = w := by
  obtain ⟨mp, rn, rp, ho, hf⟩ := h.root
  have h8 : w.cell? ⟨R, 8, none⟩ = some (.int .i64 (ms.length : Int)) := cell_of ho 8
  cases ms with
  | nil => exact front_none R w h8
  | cons m r =>
    have h4 : w.cell? ⟨R, 4, none⟩ = some (.pointer rn) := cell_of ho 4
    rw [← hf (by simp)]
    exact front_some R _ rn w (by simp; omega) h8 h4
/-- The first message's cells. -/
theorem RepR.first {w : World} {K0 R : Nat} {mx lt lim : Int} {m : Msg} {ms : List Msg} (h : RepR w K0 R mx lt lim (m :: ms)) : w.cell? ⟨m.eA, 3, none⟩ = some (.iface 39 (.pointer (some ⟨m.pA, 0, none⟩))) ∧ m.eA < w.heap.size ∧ Part w K0 m := by
  obtain ⟨hK, ⟨h0, h1⟩ | ⟨r, clock, ho, hr, hm, hKr, hKe, hp⟩⟩ := h
  · cases h0
  · have hE := hr.getE 0 (by simp)
    exact ⟨cell_of hE 3, lt_of_heap hE, hp m (by simp)⟩
theorem assert39 (v : Value) (w : World) : (Instr.typeAssert (.iface 39 v) 20 39 false).run Tryf.prog w = .ok v w := by
  simp [Instr.typeAssert, run_underlying Tryf.underlying39]
/-- A message is past its time. -/
def old (now lt : Int) (m : Msg) : Bool := !decide (satd (now - m.started) < lt)
def okS (ms : List Msg) : Prop := KD ms ∧ sumC ms ≤ 1099511627776 ∧ ms.length ≤ 1099511627776 ∧ ∀ m ∈ ms, ok64 m.started
theorem okS.tail {m : Msg} {ms : List Msg} (h : okS (m :: ms)) : okS ms := by
  obtain ⟨h1, h2, h3, h4⟩ := h
  have hc : 256 ≤ m.cost := costS_pos m.got
  simp only [sumC, List.length_cons] at h2 h3
  exact ⟨(List.pairwise_cons.1 h1).2, by omega, by omega, fun x hx => h4 x (List.mem_cons_of_mem _ hx)⟩

set_option maxHeartbeats 2000000 in
set_option maxRecDepth 10000 in
theorem expire_any (w : World) (K0 R : Nat) (mx lt lim : Int) (ms : List Msg) (now : Int) (h : RepR w K0 R mx lt lim ms) (hk : okS ms) (hn : ok64 now) (hK : K0 ≤ w.heap.size) :
    Calls Tryf.prog 33 #[.pointer (some ⟨R, 0, none⟩), .agg #[.int .u64 (now % 1000000000), .int .i64 (now / 1000000000), .pointer none]] w fun e w' => e = .returned (.tuple #[]) ∧ RepR w' K0 R mx lt lim (ms.dropWhile (old now lt)) ∧ Kp w w' ∧ Below K0 w w' := by
  obtain ⟨tn, htn⟩ : ∃ t, t = now % 1000000000 := ⟨_, rfl⟩
  obtain ⟨ts, hts⟩ : ∃ t, t = now / 1000000000 := ⟨_, rfl⟩
  rw [← htn, ← hts]
  obtain ⟨W0, hW0⟩ : ∃ W, W = w.alloc (.cells #[.int .u64 tn, .int .i64 ts, .pointer none] 92) := ⟨_, rfl⟩
  have hb0 : Below w.heap.size w W0 := by rw [hW0]; exact (Below.refl _ _).alloc (Nat.le_refl _) _
  have hN : W0.heap[w.heap.size]? = some (.cells #[.int .u64 tn, .int .i64 ts, .pointer none] 92 (0, 0)) := by rw [hW0]; exact heap_alloc_new _ _
  have H0 : Hid (RepR W0 K0 R mx lt lim ms) := h.below hb0
  have K45 := hide (frontRep (unhide H0))
  have HB0 : Hid (Kp w W0 ∧ Below K0 w W0) := ⟨Kp.of_below hb0, hb0.mono hK⟩
  have HN := hide hN
  have HKS := hide hK
  have HK := hide hk
  have HOK := hide hn
  have HT := hide htn
  have HS := hide hts
  have HW0 := hide hW0
  clear h hb0 hN hk hn htn hts hW0 hK
  go_enter Tryf.func33, Tryf.ntmps33
  go_wp2_with (go_at_call 45; rw [← unhide HW0]; refine Calls.mono (unhide K45) ?_; rintro e w8 ⟨rfl, hw8⟩; obtain rfl : W0 = w8 := hw8.symm)
  go_loopg [4, 5] ms.length (fun g ev mv w' => ∃ ms' : List Msg, g = ms'.length ∧ ev = .pointer (front ms') ∧ Hid (RepR w' K0 R mx lt lim ms') ∧ Hid (okS ms') ∧ Hid (ms'.dropWhile (old now lt) = ms.dropWhile (old now lt)) ∧ Hid (Kp W0 w' ∧ Below K0 w w'))
  case atStart => exact ⟨ms, rfl, rfl, H0, HK, rfl, ⟨Kp.refl _, (unhide HB0).2⟩⟩
  case round =>
    clear HK H0 K45
    obtain ⟨ms', hg, rfl, HR, HK, HD, HB⟩ := hrel
    have HG := hide hg
    clear hg
    cases ms' with
    | nil =>
      rw [show front ([] : List Msg) = none from rfl]
      go_wp2_with fail
      go_end0
      exact ⟨rfl, by rw [← unhide HD]; exact unhide HR, (unhide HB0).1.trans (unhide HB).1, (unhide HB).2⟩
    | cons m rest =>
      obtain ⟨f3, fe, fp⟩ := (unhide HR).first
      obtain ⟨mp, rn, rp, hroot, -⟩ := (unhide HR).root
      have hbx := ((unhide HB).1 _ _ _ (unhide HN) (by decide) (by decide)).trans (unhide HN)
      have hg : ∀ n os, Below wr.heap.size wr (grow (wr.drewN n) os) := fun n os => Gr.below ⟨n, os, rfl⟩
      have b0 : ∀ n os, (grow (wr.drewN n) os).cell? ⟨w.heap.size, 0, none⟩ = some (.int .u64 tn) := fun n os => ((hg n os).cell (p := ⟨w.heap.size, 0, none⟩) (lt_of_heap hbx)).trans (cell_of hbx 0)
      have b1 : ∀ n os, (grow (wr.drewN n) os).cell? ⟨w.heap.size, 1, none⟩ = some (.int .i64 ts) := fun n os => ((hg n os).cell (p := ⟨w.heap.size, 1, none⟩) (lt_of_heap hbx)).trans (cell_of hbx 1)
      have b2 : ∀ n os, (grow (wr.drewN n) os).cell? ⟨w.heap.size, 2, none⟩ = some (.pointer none) := fun n os => ((hg n os).cell (p := ⟨w.heap.size, 2, none⟩) (lt_of_heap hbx)).trans (cell_of hbx 2)
      have b3 : ∀ n os, (grow (wr.drewN n) os).cell? ⟨m.pA, 14, none⟩ = some (.int .u64 (m.started % 1000000000)) := fun n os => ((hg n os).cell (p := ⟨m.pA, 14, none⟩) (lt_of_heap fp.1)).trans (cell_of fp.1 14)
      have b4 : ∀ n os, (grow (wr.drewN n) os).cell? ⟨m.pA, 15, none⟩ = some (.int .i64 (m.started / 1000000000)) := fun n os => ((hg n os).cell (p := ⟨m.pA, 15, none⟩) (lt_of_heap fp.1)).trans (cell_of fp.1 15)
      have b5 : ∀ n os, (grow (wr.drewN n) os).cell? ⟨m.pA, 16, none⟩ = some (.pointer none) := fun n os => ((hg n os).cell (p := ⟨m.pA, 16, none⟩) (lt_of_heap fp.1)).trans (cell_of fp.1 16)
      have b6 : ∀ n os, (grow (wr.drewN n) os).cell? ⟨R, 1, none⟩ = some (.int .i64 lt) := fun n os => ((hg n os).cell (p := ⟨R, 1, none⟩) (lt_of_heap hroot)).trans (cell_of hroot 1)
      have hst : ok64 m.started := (unhide HK).2.2.2 m (by simp)
      have K46 : Hid (∀ W, Calls Tryf.prog 46 #[.agg #[.int .u64 tn, .int .i64 ts, .pointer none], .agg #[.int .u64 (m.started % 1000000000), .int .i64 (m.started / 1000000000), .pointer none]] W fun e w' => e = .returned (.int .i64 (satd (now - m.started))) ∧ ∃ q os, w' = grow (W.drewN q) os) := fun W => by
        have e1 : ts * 1000000000 + tn = now := by rw [unhide HT, unhide HS]; omega
        have e2 : m.started / 1000000000 * 1000000000 + m.started % 1000000000 = m.started := by omega
        have q := sub_any tn ts (m.started % 1000000000) (m.started / 1000000000) W ⟨by rw [unhide HT]; omega, by rw [unhide HT]; omega⟩ ⟨by omega, by omega⟩ (by rw [e1]; exact unhide HOK) (by rw [e2]; exact hst)
        rw [e1, e2] at q; exact q
      have KD25 : Hid (∀ W, RepR W K0 R mx lt lim (m :: rest) → Calls Tryf.prog 25 #[.pointer (some ⟨R, 0, none⟩), .pointer (some ⟨m.pA, 0, none⟩)] W fun e w' => e = .returned (.tuple #[]) ∧ RepR w' K0 R mx lt lim rest ∧ Kp W w' ∧ Below K0 W w') := fun W hW => dropRep hW (unhide HK).1 (unhide HK).2.1 (unhide HK).2.2.1 0 (by simp)
      have hmo := hmo
      have hta := assert39 (.pointer (some ⟨m.pA, 0, none⟩))
      generalize m.started % 1000000000 = un at *
      generalize m.started / 1000000000 = us at *
      obtain ⟨sd, hsd⟩ : ∃ sd, satd (now - m.started) = sd := ⟨_, rfl⟩
      rw [hsd] at K46
      have HSD := hide hsd
      rw [show front (m :: rest) = some ⟨m.eA, 0, none⟩ from rfl]
      clear hg hbx hst hsd hroot fp
      by_cases c : sd < lt
      · go_wp2_with fail
        go_quiet_grown (first | (go_at_call 46; refine Calls.grown_of (unhide K46 _)))
        have HG2 : Hid (Below wr.heap.size wr (grow (wr.drewN nq) osq)) := Gr.below ⟨nq, osq, rfl⟩
        go_wp2_with fail
        refine bodyPost_ret (v := .tuple #[]) (by simp [results, Tryf.results33, go_sem]) rfl ?_
        have hd : (m :: rest).dropWhile (old now lt) = m :: rest := by
          rw [List.dropWhile_cons_of_neg]; simp [old, unhide HSD, c]
        refine ⟨rfl, ?_, (unhide HB0).1.trans ((unhide HB).1.trans (Kp.of_below (unhide HG2))), (unhide HB).2.trans ((unhide HG2).mono (Nat.le_trans (unhide HKS) (unhide HB).2.size))⟩
        rw [← unhide HD, hd]
        exact (unhide HR).below (unhide HG2)
      · go_wp2_with fail
        go_quiet_grown (first | (go_at_call 46; refine Calls.grown_of (unhide K46 _)))
        have HG2 : Hid (Below wr.heap.size wr (grow (wr.drewN nq) osq)) := Gr.below ⟨nq, osq, rfl⟩
        generalize grow (wr.drewN nq) osq = wq at *
        go_wp2_with fail
        refine Calls.mono (unhide KD25 wq ((unhide HR).below (unhide HG2))) ?_
        rintro e w9 ⟨rfl, r9, k9, l9⟩
        have K45 := hide (frontRep r9)
        have R9 := hide r9
        have B9 : Hid (Kp W0 w9 ∧ Below K0 w w9) := ⟨(unhide HB).1.trans ((Kp.of_below (unhide HG2)).trans k9), ((unhide HB).2.trans ((unhide HG2).mono (Nat.le_trans (unhide HKS) (unhide HB).2.size))).trans l9⟩
        clear r9 k9 l9
        go_wp2_with fail
        refine Calls.mono (unhide K45) ?_
        rintro e w8 ⟨rfl, hw8⟩
        obtain rfl : w9 = w8 := hw8.symm
        go_wp2_with fail
        go_roundg rest.length
        case measure => rw [unhide HG]; simp
        case rel => exact ⟨rest, rfl, rfl, R9, (unhide HK).tail, by
          have hd : (m :: rest).dropWhile (old now lt) = rest.dropWhile (old now lt) := by
            rw [List.dropWhile_cons_of_pos]; simp [old, unhide HSD, c]
          rw [← unhide HD, hd]; rfl, B9⟩
end Go.Proofs.Qxb6612998aFmt
