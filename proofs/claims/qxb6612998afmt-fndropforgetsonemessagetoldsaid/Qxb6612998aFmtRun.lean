import Derived.Test.Qxb6612998aFmtSam
namespace Go.Proofs.Qxb6612998aFmt
open Go.RowKit Go.Sort Go.Extern.Stop Go.Stop Go.Extern

/-- A script of steps, below K0. -/
def Scr (w : World) (K0 : Nat) (v : Value) (ss : List Stp) : Prop := ∃ oa c, v = .slice oa ss.length c ∧ (ss ≠ [] → ∃ b off, oa = some ⟨b, off, none⟩ ∧ b < K0 ∧ b < w.heap.size ∧ ∀ i (hi : i < ss.length), ∃ da dc, BI w K0 (.slice da (ss[i]).data.length dc) (ss[i]).data ∧ ∀ j u, (box37 ss[i] da dc)[j]? = some u → w.cell? ⟨b, off + i * 7 + j, none⟩ = some u)
theorem Scr.below {w w' : World} {K0 : Nat} {v : Value} {ss : List Stp} (h : Scr w K0 v ss) (hb : Below K0 w w') : Scr w' K0 v ss := by
  obtain ⟨oa, c, e, h⟩ := h
  refine ⟨oa, c, e, fun hn => ?_⟩
  obtain ⟨b, off, e1, h1, h2, h3⟩ := h hn
  refine ⟨b, off, e1, h1, Nat.lt_of_lt_of_le h2 hb.size, fun i hi => ?_⟩
  obtain ⟨da, dc, q1, q2⟩ := h3 i hi
  exact ⟨da, dc, q1.below hb, fun j u hu => (hb.cell (p := ⟨b, off + i * 7 + j, none⟩) h1).trans (q2 j u hu)⟩
/-- What a script leaves. -/
def runA (mx lt lim : Int) (aa : List Abs) (ss : List Stp) : List Abs := ss.foldl (fun a s => (stepA mx lt lim a s).2) aa
/-- What a script may cost. -/
def cst : List Stp → Int
  | [] => 0
  | s :: r => 320 + s.data.length + cst r
theorem cst_app : ∀ a b : List Stp, cst (a ++ b) = cst a + cst b
  | [], b => by simp [cst]
  | s :: r, b => by simp only [List.cons_append, cst, cst_app r b]; omega
theorem cst_nonneg : ∀ a : List Stp, 0 ≤ cst a
  | [] => by simp [cst]
  | s :: r => by have := cst_nonneg r; simp only [cst]; omega
theorem putA_len {aa : List Abs} {i : Nat} {s : Stp} {B mx lim : Int} (h : okA aa B) (hB : B ≤ 8388864) (hs : okP s) : (putA mx lim aa i s).1.1.length ≤ 4611686018427387904 := by
  unfold putA
  split
  · simp
  · rename_i a ha
    split
    · simp
    · split
      · simp
      · split
        · have hm := sumA_mem aa a (List.mem_of_getElem? ha)
          have h1 := h.sum
          have h2 := lenS_le a.got
          have h3 := hs.data
          have h4 := preA_len (addA a s).got 255
          have h5 : lenS (addA a s).got = lenS a.got + s.data.length := lenS_app a.got (s.part, s.data)
          show (preA (addA a s).got 255).length ≤ _
          rw [h5] at h4
          omega
        · simp
theorem stepA_len {aa : List Abs} {s : Stp} {B mx lt lim : Int} (h : okA aa B) (hB : B ≤ 8388608) (hs : okP s) : (stepA mx lt lim aa s).1.1.length ≤ 4611686018427387904 := by
  have h1 : okA (aa.dropWhile (oldA s.now lt)) B := h.sl (List.dropWhile_sublist _)
  have h2 := pickA_ok (s := s) h1
  unfold stepA
  have hd := hs.data
  split
  · rename_i a2 he
    rw [he] at h2
    split
    · show s.data.length ≤ _; omega
    · exact putA_len (newA_ok h2.1 hs (h2.2.2 rfl)) (by omega) hs
  · rename_i a2 i he
    rw [he] at h2
    exact putA_len h2.1 (by omega) hs
/-- Both sides hold the same messages. -/
structure Both (w : World) (K0 R M : Nat) (mx lt lim : Int) (aa : List Abs) (B : Int) : Prop where
  ok : okA aa B
  both : ∃ ms mv xs, RepR w K0 R mx lt lim ms ∧ GD ms ∧ RepM w K0 M mx lt lim mv xs ∧ ms.map Msg.abs = aa ∧ xs.map Prod.snd = aa

set_option maxHeartbeats 4000000 in
set_option maxRecDepth 10000 in
theorem run_any (F : Interp) (w : World) (K0 R M : Nat) (mx lt lim : Int) (aa : List Abs) (ss : List Stp) (v : Value) (B : Int) (hF : F.answers w.tape) (hK0 : K0 ≤ w.heap.size) (h : Both w K0 R M mx lt lim aa B) (hB : B + cst ss ≤ 8388608) (hs : ∀ s ∈ ss, okP s) (hl : ss.length ≤ 1048576) (hv : Scr w K0 v ss) :
    Calls Tryf.prog 10 #[.pointer (some ⟨R, 0, none⟩), .pointer (some ⟨M, 0, none⟩), v] w fun e w' => e = .returned (.bool true) ∧ Both w' K0 R M mx lt lim (runA mx lt lim aa ss) (B + cst ss) ∧ Below K0 w w' := by
  obtain ⟨oa, c, rfl, hv0⟩ := id hv
  have H := hide h
  have HV := hide hv
  have HV0 := hide hv0
  have HS := hide hs
  have HK := hide (And.intro hF (And.intro hK0 hB))
  clear h hv hs hF hK0 hB hv0
  go_enter Tryf.func10, Tryf.ntmps10
  go_wp2_with fail
  go_loopg [6, 7, 8, 9, 10, 11, 12, 13, 14] ss.length (fun gg v6 v7 v8 v9 v10 v11 v12 v13 v14 w' => ∃ i : Nat, gg = ss.length - i ∧ i ≤ ss.length ∧ v7 = .int .i64 (i : Int) ∧ Hid (Both w' K0 R M mx lt lim (runA mx lt lim aa (ss.take i)) (B + cst (ss.take i))) ∧ Hid (Below K0 w w'))
  case atStart => exact ⟨0, by omega, Nat.zero_le _, rfl, by simpa [runA, cst] using H, Below.refl _ _⟩
  case round =>
    clear H
    obtain ⟨i, hgi, hi, rfl, HBo, HBe⟩ := hrel
    by_cases ci : i < ss.length
    · obtain ⟨b, off, rfl, hbK, hbs, hcell⟩ := unhide HV0 (by intro e; rw [e] at ci; simp at ci)
      obtain ⟨da, dc, hbi, hc⟩ := hcell i ci
      have hok : okP ss[i] := unhide HS _ (List.getElem_mem ci)
      have hta : ss.take (i + 1) = ss.take i ++ [ss[i]] := by rw [List.take_add_one, List.getElem?_eq_getElem ci]; rfl
      have hrun : runA mx lt lim aa (ss.take (i + 1)) = (stepA mx lt lim (runA mx lt lim aa (ss.take i)) ss[i]).2 := by rw [hta, runA, List.foldl_append]; rfl
      have hcs : cst (ss.take (i + 1)) = cst (ss.take i) + 320 + (ss[i]).data.length := by rw [hta, cst_app]; simp [cst]; omega
      have hct : cst ss = cst (ss.take i) + cst (ss.drop i) := by rw [← cst_app, List.take_append_drop]
      have hcd := cst_nonneg (ss.drop i)
      obtain ⟨s, hsE⟩ : ∃ s, s = ss[i] := ⟨_, rfl⟩
      rw [← hsE] at hbi hc hok hrun hcs
      have cc : ∀ j u, (box37 s da dc)[j]? = some u → wr.cell? ⟨b, off + i * 7 + j, none⟩ = some u := fun j u hu => ((unhide HBe).cell (p := ⟨b, off + i * 7 + j, none⟩) hbK).trans (hc j u hu)
      have y0 : wr.cell? ⟨b, off + i * 7, none⟩ = some (.int .u16 s.port) := cc 0 _ rfl
      have y1 : wr.cell? ⟨b, off + i * 7 + 1, none⟩ = some (.int .u8 s.flags) := cc 1 _ rfl
      have y2 : wr.cell? ⟨b, off + i * 7 + 2, none⟩ = some (.int .u16 s.seq) := cc 2 _ rfl
      have y3 : wr.cell? ⟨b, off + i * 7 + 3, none⟩ = some (.int .i64 s.part) := cc 3 _ rfl
      have y4 : wr.cell? ⟨b, off + i * 7 + 4, none⟩ = some (.int .i64 s.parts) := cc 4 _ rfl
      have y5 : wr.cell? ⟨b, off + i * 7 + 5, none⟩ = some (.slice da s.data.length dc) := cc 5 _ rfl
      have y6 : wr.cell? ⟨b, off + i * 7 + 6, none⟩ = some (.int .i64 s.now) := cc 6 _ rfl
      have z1 : (0 : Int) ≤ (i : Int) := by omega
      have z2 : (i : Int) < (ss.length : Int) := by omega
      have z3 : IntKind.i64.wrap ((i : Int) + 1) = (i : Int) + 1 := by rw [IntKind.wrap_i64]; omega
      have HSE := hide hsE
      have HRUN := hide hrun
      have HCS := hide (And.intro hcs (And.intro hct hcd))
      have HOK := hide hok
      obtain ⟨aI, haI⟩ : ∃ a, a = runA mx lt lim aa (ss.take i) := ⟨_, rfl⟩
      rw [← haI] at HBo HRUN
      obtain ⟨B', hB'⟩ : ∃ B', B' = B + cst (ss.take i) := ⟨_, rfl⟩
      rw [← hB'] at HBo
      have hB8 : B' ≤ 8388608 := by have := (unhide HK).2.2; omega
      have HB' := hide (And.intro hB' hB8)
      obtain ⟨ms, mv, xs, rR, gd, rM, e1, e2⟩ := (unhide HBo).both
      have okI := (unhide HBo).ok
      obtain ⟨W1, hW1⟩ : ∃ W, W = wr.alloc (.cells (box37 s da dc) 37) := ⟨_, rfl⟩
      have hb1 : Below wr.heap.size wr W1 := by rw [hW1]; exact (Below.refl _ _).alloc (Nat.le_refl _) _
      have hq1 : W1.heap[wr.heap.size]? = some (.cells (box37 s da dc) 37 (0, 0)) := by rw [hW1]; exact heap_alloc_new _ _
      have hKr : K0 ≤ wr.heap.size := Nat.le_trans (unhide HK).2.1 (unhide HBe).size
      have bl1 : Below K0 w W1 := (unhide HBe).trans (hb1.mono hKr)
      have biW := hbi.below bl1
      obtain ⟨l, wh, fl, a2, hA⟩ : ∃ l wh fl a2, stepA mx lt lim aI s = ((l, wh, fl), a2) := ⟨_, _, _, _, rfl⟩
      have K19 := zzcollect_any F W1 K0 R mx lt lim ms s da dc B' (by rw [bl1.tape]; exact (unhide HK).1) (Nat.le_trans hKr hb1.size) (rR.below hb1) gd (by rw [e1]; exact okI) hB8 hok biW
      rw [e1, hA] at K19
      have K19 := hide K19
      have HW1 := hide hW1
      have M1 := hide (rM.below hb1)
      have BI1 := hide biW
      have BL1 := hide bl1
      have HQ1 := hide hq1
      have HA := hide hA
      have HE2 := hide e2
      have OKI := hide okI
      have HKR := hide (Nat.le_trans hKr hb1.size)
      have x0 : W1.cell? ⟨wr.heap.size, 0, none⟩ = some (.int .u16 s.port) := cell_of hq1 0
      have x1 : W1.cell? ⟨wr.heap.size, 1, none⟩ = some (.int .u8 s.flags) := cell_of hq1 1
      have x2 : W1.cell? ⟨wr.heap.size, 2, none⟩ = some (.int .u16 s.seq) := cell_of hq1 2
      have x3 : W1.cell? ⟨wr.heap.size, 3, none⟩ = some (.int .i64 s.part) := cell_of hq1 3
      have x4 : W1.cell? ⟨wr.heap.size, 4, none⟩ = some (.int .i64 s.parts) := cell_of hq1 4
      have x5 : W1.cell? ⟨wr.heap.size, 5, none⟩ = some (.slice da s.data.length dc) := cell_of hq1 5
      have x6 : W1.cell? ⟨wr.heap.size, 6, none⟩ = some (.int .i64 s.now) := cell_of hq1 6
      clear cc hc hcell hsE hrun hcs hct hcd hok haI hB' hB8 rR gd rM e1 e2 okI hW1 hb1 hq1 bl1 biW hA hbi hta HBo hKr
      unfold box37 at HW1
      go_upto_region 5 with fail
      rw [← unhide HW1]
      clear y0 y1 y2 y3 y4 y5 y6
      go_upto_region 6 with (go_at_call 19; refine Calls.mono (unhide K19) ?_; rintro e w2 ⟨v1, er, ms2, rfl, h2⟩; have H2 := hide h2; clear h2)
      obtain ⟨bx2, her, r2, gd2, e2, fr2⟩ := unhide H2
      have hq2 : w2.heap[wr.heap.size]? = some (.cells (box37 s da dc) 37 (0, 0)) := (fr2.keep _ _ _ (unhide HQ1) (by decide) (by decide) (by decide) (by decide)).trans (unhide HQ1)
      have hK2 : K0 ≤ w2.heap.size := Nat.le_trans (unhide HKR) fr2.below.size
      have K12 := mstep_any w2 K0 M mx lt lim mv xs s da dc B' hK2 ((unhide M1).frR fr2) (by rw [unhide HE2]; exact unhide OKI) (unhide HB').2 (unhide HOK) ((unhide BI1).below fr2.below)
      rw [unhide HE2, unhide HA] at K12
      have K12 := hide K12
      have x0 : w2.cell? ⟨wr.heap.size, 0, none⟩ = some (.int .u16 s.port) := cell_of hq2 0
      have x1 : w2.cell? ⟨wr.heap.size, 1, none⟩ = some (.int .u8 s.flags) := cell_of hq2 1
      have x2 : w2.cell? ⟨wr.heap.size, 2, none⟩ = some (.int .u16 s.seq) := cell_of hq2 2
      have x3 : w2.cell? ⟨wr.heap.size, 3, none⟩ = some (.int .i64 s.part) := cell_of hq2 3
      have x4 : w2.cell? ⟨wr.heap.size, 4, none⟩ = some (.int .i64 s.parts) := cell_of hq2 4
      have x5 : w2.cell? ⟨wr.heap.size, 5, none⟩ = some (.slice da s.data.length dc) := cell_of hq2 5
      have x6 : w2.cell? ⟨wr.heap.size, 6, none⟩ = some (.int .i64 s.now) := cell_of hq2 6
      unfold box37 at K12
      have BX2 := hide bx2
      have HER := hide her
      have R2 := hide r2
      have GD2 := hide gd2
      have E2 := hide e2
      have FR2 := hide fr2
      clear bx2 her r2 gd2 e2 fr2 hq2 hK2 H2 K19
      go_upto_region 7 with (go_at_call 12; refine Calls.mono (unhide K12) ?_; rintro e w3 ⟨v2, mv3, xs3, rfl, h3⟩; have H3 := hide h3; clear h3)
      obtain ⟨bx3, r3, e3, fr3⟩ := unhide H3
      have hlen : l.length ≤ 4611686018427387904 := by
        have q := stepA_len (mx := mx) (lt := lt) (lim := lim) (unhide OKI) (unhide HB').2 (unhide HOK)
        rw [unhide HA] at q
        exact q
      have K20 := hide (equal_same v1 v2 l w3 ((unhide BX2).frM fr3).bs bx3.bs hlen)
      have ok2 : okA a2 (B' + 320 + s.data.length) := by
        have q := stepA_ok (mx := mx) (lt := lt) (lim := lim) (unhide OKI) (unhide HOK)
        rw [unhide HA] at q
        exact q
      have bl3 : Below K0 w w3 := ((unhide BL1).trans (unhide FR2).below).trans fr3.below
      have rR3 := (unhide R2).frM fr3
      have hxl : xs3.length ≤ 1099511627776 := by
        have h1 := ok2.sum
        have h2 := sumA_len a2
        have h3 : xs3.length = a2.length := by rw [← e3]; simp
        have h4 := (unhide HB').2
        have h5 := (unhide HOK).data
        omega
      have R3 := hide rR3
      have M3 := hide r3
      have E3 := hide e3
      have OK2 := hide ok2
      have BL3 := hide bl3
      have K17 : Hid (∀ W, Gr w3 W → Calls Tryf.prog 17 #[.pointer (some ⟨R, 0, none⟩), .pointer (some ⟨M, 0, none⟩)] W fun e w' => e = .returned (.bool true) ∧ Gr W w') := fun W hW => same_any ((unhide R3).below hW.below) ((unhide M3).below hW.below) (by rw [unhide E2, unhide E3]) hxl
      have FIN : Hid (∀ W, Gr w3 W → Both W K0 R M mx lt lim (runA mx lt lim aa (ss.take (i + 1))) (B + cst (ss.take (i + 1))) ∧ Below K0 w W) := fun W hW => by
        have hK3 : K0 ≤ w3.heap.size := Nat.le_trans (unhide HK).2.1 (unhide BL3).size
        refine ⟨⟨?_, ms2, mv3, xs3, (unhide R3).below hW.below, unhide GD2, (unhide M3).below hW.below, ?_, ?_⟩, (unhide BL3).trans (hW.below.mono hK3)⟩
        · rw [unhide HRUN, unhide HA, (unhide HCS).1]
          exact (unhide OK2).mono (by have := (unhide HB').1; omega)
        · rw [unhide E2, unhide HRUN, unhide HA]
        · rw [unhide E3, unhide HRUN, unhide HA]
      have hercase := unhide HER
      clear bx3 r3 e3 fr3 hlen ok2 bl3 rR3 hxl H3 K12 x0 x1 x2 x3 x4 x5 x6
      cases wh <;> cases fl
      all_goals
        rcases hercase with ⟨hf, t, u, her⟩ | ⟨hf, her⟩
      all_goals first | (cases hf; done) | skip
      all_goals
        subst her
        clear hf
        go_upto_region 9 with (go_at_call 20; refine Calls.mono (unhide K20) ?_; rintro e w4 ⟨rfl, g4⟩; have G4 := hide g4; clear g4)
        go_wp2_with (go_at_call 17; refine Calls.mono (unhide K17 _ (unhide G4)) ?_; rintro e w5 ⟨rfl, g5⟩; have G5 := hide g5; clear g5)
        go_roundg (ss.length - (i + 1))
        case measure => omega
        case rel => exact ⟨i + 1, rfl, by omega, by simp, (unhide FIN _ ((unhide G4).trans (unhide G5))).1, (unhide FIN _ ((unhide G4).trans (unhide G5))).2⟩
    · obtain rfl : i = ss.length := by omega
      have z2 : ¬ ((ss.length : Int) < (ss.length : Int)) := by omega
      go_wp2_with fail
      go_ret
      have q := unhide HBo
      rw [List.take_length] at q
      exact ⟨rfl, q, unhide HBe⟩
end Go.Proofs.Qxb6612998aFmt
