import Derived.Test.Qxb6612998aFmtBy2
namespace Go.Proofs.Qxb6612998aFmt
open Go.RowKit Go.Sort Go.Extern.Stop Go.Stop Go.Extern

theorem bsum_nonneg (ss : List Stp) : 0 ≤ bsum ss := by have := bsum_len ss; omega
/-- What the first model's run leaves. -/
def Md0 (w w' : World) (K0 M : Nat) (mx lt lim : Int) (aa : List Abs) (B : Int) : Prop := (∃ mv xs, RepM w' K0 M mx lt lim mv xs ∧ xs.map Prod.snd = aa) ∧ okA aa B ∧ Below K0 w w'
theorem look_none {p s : Int} {ms : List Msg} {i : Nat} (hk : KDA (ms.map Msg.abs)) (h : findA p s (ms.map Msg.abs) 0 = some i) : lookV p s ((ms.eraseIdx i).map Msg.ent) = .pointer none := by
  have h1 := findA_erase hk h
  rw [erase_abs] at h1
  rw [lookV, find_none _ _ _ _ h1]

theorem map_eraseG {α β : Type} (f : α → β) : ∀ (l : List α) (j : Nat), (l.eraseIdx j).map f = (l.map f).eraseIdx j
  | [], _ => rfl
  | _ :: _, 0 => rfl
  | a :: r, j + 1 => by simp only [List.eraseIdx_cons_succ, List.map_cons, map_eraseG f r j]
theorem Scr.full {w : World} {K0 : Nat} {oa : Option Addr} {n c : Nat} {ss : List Stp} (h : Scr w K0 (.slice oa n c) ss) (i : Nat) (hi : i < ss.length) : ∃ b off da dc, oa = some ⟨b, off, none⟩ ∧ b < K0 ∧ BI w K0 (.slice da (ss[i]).data.length dc) (ss[i]).data ∧ ∀ j u, (box37 ss[i] da dc)[j]? = some u → w.cell? ⟨b, off + i * 7 + j, none⟩ = some u := by
  obtain ⟨oa', c', e, h⟩ := h
  injection e with e1 e2 e3
  subst e1
  obtain ⟨b, off, e4, hb, -, h3⟩ := h (by intro e; rw [e] at hi; simp at hi)
  obtain ⟨da, dc, q1, q2⟩ := h3 i hi
  exact ⟨b, off, da, dc, e4, hb, q1, q2⟩

set_option maxHeartbeats 8000000 in
set_option maxRecDepth 10000 in
theorem law4_any (F : Interp) (w : World) (K0 : Nat) (mx lt lim port seq : Int) (oa : Option Addr) (n c : Nat) (ss : List Stp) (ob : Option Addr) (n2 c2 : Nat) (ts : List Stp) (hF : F.answers w.tape) (hK : K0 ≤ w.heap.size) (h : Scr w K0 (.slice oa n c) ss) (hl : n ≤ 9223372036854775807) (hT : ∀ s ∈ ss, okT s) (h2 : Scr w K0 (.slice ob n2 c2) ts) (hl2 : n2 ≤ 9223372036854775807) (hT2 : ∀ s ∈ ts, okT s) :
    Calls Tryf.prog 4 #[.int .i64 mx, .int .i64 lt, .int .i64 lim, .slice oa n c, .int .u16 port, .int .u16 seq, .slice ob n2 c2] w (LawP w K0) := by
  obtain rfl : n = ss.length := h.row.1
  have hn2 : n2 = ts.length := h2.row.1
  have K11 := hide (bytes11_any mx lt lim port seq h h2 hl hl2 (fun s hs => (hT s hs).2.2) (fun s hs => (hT2 s hs).2.2))
  have K6 := hide (stepsBytes_any h 0 (by omega) hl (fun s hs => (hT s hs).2.2))
  have K6b : Hid (∀ sum, 0 ≤ sum ∧ sum ≤ 1048576 → Calls Tryf.prog 6 #[.slice ob n2 c2, .int .i64 sum] w fun e w' => ∃ r, e = .returned (.int .i64 r) ∧ w' = w ∧ (r ≤ 1048576 → (∀ s ∈ ts, s.data.length ≤ 1048576) ∧ r = sum + bsum ts)) := fun sum hs => stepsBytes_any h2 sum hs hl2 (fun s hs => (hT2 s hs).2.2)
  have K7 := hide (stepsValid_any h hl)
  have K7b : Hid (∀ W, Gr w W → Calls Tryf.prog 7 #[.slice ob n2 c2] W (ValP W ts)) := fun W hW => stepsValid_any (h2.below (hW.below.mono hK)) hl2
  have K8 : Hid (∀ W, K0 ≤ W.heap.size → Calls Tryf.prog 8 #[.int .i64 mx, .int .i64 lt, .int .i64 lim] W fun e w' => ∃ R, e = .returned (.pointer (some ⟨R, 0, none⟩)) ∧ RepR w' K0 R mx lt lim [] ∧ Gr W w') := fun W hW => zznew_any W K0 mx lt lim hW
  have K9 : Hid (∀ W, K0 ≤ W.heap.size → Calls Tryf.prog 9 #[.int .i64 mx, .int .i64 lt, .int .i64 lim] W fun e w' => ∃ M, e = .returned (.pointer (some ⟨M, 0, none⟩)) ∧ RepM w' K0 M mx lt lim (.slice none 0 0) [] ∧ Gr W w') := fun W hW => newModel_any W K0 mx lt lim hW
  have H := hide h
  have H2 := hide h2
  have HT := hide (And.intro hT hT2)
  have HF := hide (And.intro hF (And.intro hK hn2))
  clear h hT hF hK hl2 hn2 h2 hT2
  go_enter Tryf.func4, Tryf.ntmps4
  go_upto_if 30 with (go_at_call 11; refine Calls.mono (unhide K11) ?_; rintro e w1 ⟨r1, rfl, hw1⟩; obtain rfl : w = w1 := hw1.symm)
  cases r1 with
  | false =>
    go_wp2_with fail
    go_ret
    exact ⟨rfl, Below.refl _ _⟩
  | true =>
  go_upto_if 34 with (go_at_call 6; refine Calls.mono (unhide K6) ?_; rintro e w1 ⟨r2, rfl, hw1, h6⟩; obtain rfl : w = w1 := hw1.symm; have H6 := hide h6; clear h6)
  by_cases c6 : 1048576 < r2
  · go_wp2_with fail
    go_ret
    exact ⟨rfl, Below.refl _ _⟩
  have h6 := unhide H6 (by omega)
  have hr0 : 0 ≤ r2 := by have := bsum_nonneg ss; omega
  have K6c := hide (unhide K6b r2 (by omega))
  have HB := hide h6
  clear h6 H6 K6 K6b K11 hr0
  go_upto_if 38 with (go_at_call 6; refine Calls.mono (unhide K6c) ?_; rintro e w1 ⟨r3, rfl, hw1, h6⟩; obtain rfl : w = w1 := hw1.symm; have H6 := hide h6; clear h6)
  by_cases c7 : 1048576 < r3
  · go_wp2_with fail
    go_ret
    exact ⟨rfl, Below.refl _ _⟩
  have h6 := unhide H6 (by omega)
  have HB2 := hide h6
  have C7 := hide (And.intro c6 c7)
  clear h6 H6 K6c
  go_upto_region 8 with fail
  go_cut [46] from 39 to 46 (fun cv w' => ∃ r : Bool, cv = .bool r ∧ Hid (Gr w w' ∧ (r = false → (∀ s ∈ ss, 1 ≤ s.part ∧ s.part ≤ s.parts ∧ s.parts ≤ 255) ∧ (∀ s ∈ ts, 1 ≤ s.part ∧ s.part ≤ s.parts ∧ s.parts ≤ 255))))
  case first =>
    go_wp2_with (go_at_call 7; first | ((with_reducible refine Calls.mono (unhide K7) ?_); rintro e w2 ⟨r, rfl, g2, h7⟩; have G2 := hide g2; have H7 := hide h7; clear g2 h7; cases r) | ((with_reducible refine Calls.mono (unhide K7b _ (unhide G2)) ?_); rintro e w3 ⟨r, rfl, g3, h8⟩; have G3 := hide g3; have H8 := hide h8; clear g3 h8))
    all_goals go_meet
    case rel => exact ⟨true, rfl, unhide G2, fun e => by cases e⟩
    case rel => exact ⟨!r, rfl, (unhide G2).trans (unhide G3), fun e => ⟨unhide H7 trivial, unhide H8 (by cases r <;> first | rfl | cases e)⟩⟩
  case rest =>
    rename World => wz
    clear K7 K7b
    obtain ⟨r, rfl, HZ⟩ := hcut
    cases r with
    | true =>
      go_wp2_with fail
      go_ret
      exact ⟨rfl, (unhide HZ).1.below.mono (unhide HF).2.1⟩
    | false =>
    have hval := (unhide HZ).2 rfl
    have hok : ∀ s ∈ ss, okP s := fun s hs => okP_of ((unhide HT).1 s hs) (hval.1 s hs) ((unhide HB).1 s hs)
    have hok2 : ∀ s ∈ ts, okP s := fun s hs => okP_of ((unhide HT).2 s hs) (hval.2 s hs) ((unhide HB2).1 s hs)
    have hKz : K0 ≤ wz.heap.size := Nat.le_trans (unhide HF).2.1 (unhide HZ).1.size
    have hcst : cst ss + cst ts ≤ 8388608 ∧ 0 ≤ cst ss ∧ 0 ≤ cst ts := by
      have h1 := cst_bsum ss
      have h2 := cst_bsum ts
      have h3 := (unhide HB).2
      have h4 := (unhide HB2).2
      have h5 := cst_nonneg ss
      have h6 := cst_nonneg ts
      omega
    have hln : ss.length ≤ 1048576 ∧ ts.length ≤ 1048576 := by
      have h1 := bsum_len ss
      have h2 := bsum_len ts
      have h3 := (unhide HB).2
      have h4 := (unhide HB2).2
      omega
    have bz : Below K0 w wz := (unhide HZ).1.below.mono (unhide HF).2.1
    have K9z := hide (unhide K9 wz hKz)
    have HOK := hide (And.intro hok hok2)
    have HCL := hide (And.intro hcst hln)
    have BZ := hide bz
    have hln1 := hln.1
    clear hval hok hok2 hcst hln bz HB HB2 HT C7 c6 c7 HZ hKz
    go_upto_region 11 with (go_at_call 9; refine Calls.mono (unhide K9z) ?_; rintro e w4 ⟨M0, rfl, r4, g4⟩; have R4 := hide r4; have G4 := hide g4; clear r4 g4)
    have b4 : Below K0 w w4 := (unhide BZ).trans ((unhide G4).below.mono (Nat.le_trans (unhide HF).2.1 (unhide BZ).size))
    have HM0 : Hid (Md0 w w4 K0 M0 mx lt lim (runA mx lt lim [] (ss.take 0)) (cst (ss.take 0))) := ⟨⟨_, [], unhide R4, by simp [runA]⟩, by simpa [runA, cst] using (⟨List.Pairwise.nil, by simp [sumA], fun a h => by simp at h⟩ : okA [] 0), b4⟩
    clear b4 R4 G4 K9z
    go_upto_block 0 with fail
    go_cut [17] from 51 to 62 (fun iv w' => Hid (Md0 w w' K0 M0 mx lt lim (runA mx lt lim [] ss) (cst ss)))
    case first =>
      go_wp2_with fail
      go_loopg [17, 51, 52, 53, 54, 55, 56, 57, 58, 59, 60, 61, 62] ss.length (fun gg v17 v51 v52 v53 v54 v55 v56 v57 v58 v59 v60 v61 v62 w' => ∃ i : Nat, gg = ss.length - i ∧ i ≤ ss.length ∧ v17 = .int .i64 (i : Int) ∧ Hid (Md0 w w' K0 M0 mx lt lim (runA mx lt lim [] (ss.take i)) (cst (ss.take i))))
      case atStart => exact ⟨0, by omega, Nat.zero_le _, rfl, HM0⟩
      case round =>
        clear HM0
        obtain ⟨i, hgi, hi, rfl, HMi⟩ := hrel
        by_cases ci : i < ss.length
        · obtain ⟨b, off, da, dc, rfl, hbK, hbi, hc⟩ := (unhide H).full i ci
          have hok : okP ss[i] := (unhide HOK).1 _ (List.getElem_mem ci)
          have hta : ss.take (i + 1) = ss.take i ++ [ss[i]] := by rw [List.take_add_one, List.getElem?_eq_getElem ci]; rfl
          have hrun : runA mx lt lim [] (ss.take (i + 1)) = (stepA mx lt lim (runA mx lt lim [] (ss.take i)) ss[i]).2 := by rw [hta, runA, List.foldl_append]; rfl
          have hcs : cst (ss.take (i + 1)) = cst (ss.take i) + 320 + (ss[i]).data.length := by rw [hta, cst_app]; simp [cst]; omega
          have hct : cst ss = cst (ss.take i) + cst (ss.drop i) := by rw [← cst_app, List.take_append_drop]
          have hcd := cst_nonneg (ss.drop i)
          have hB8 : cst (ss.take i) ≤ 8388608 := by have := (unhide HCL).1; omega
          obtain ⟨⟨mv, xs, rM, e1⟩, okm, bel⟩ := unhide HMi
          obtain ⟨s, hsE⟩ : ∃ s, s = ss[i] := ⟨_, rfl⟩
          rw [← hsE] at hbi hc hok hrun hcs
          have cc : ∀ j u, (box37 s da dc)[j]? = some u → wr.cell? ⟨b, off + i * 7 + j, none⟩ = some u := fun j u hu => (bel.cell (p := ⟨b, off + i * 7 + j, none⟩) hbK).trans (hc j u hu)
          have y0 : wr.cell? ⟨b, off + i * 7, none⟩ = some (.int .u16 s.port) := cc 0 _ rfl
          have y1 : wr.cell? ⟨b, off + i * 7 + 1, none⟩ = some (.int .u8 s.flags) := cc 1 _ rfl
          have y2 : wr.cell? ⟨b, off + i * 7 + 2, none⟩ = some (.int .u16 s.seq) := cc 2 _ rfl
          have y3 : wr.cell? ⟨b, off + i * 7 + 3, none⟩ = some (.int .i64 s.part) := cc 3 _ rfl
          have y4 : wr.cell? ⟨b, off + i * 7 + 4, none⟩ = some (.int .i64 s.parts) := cc 4 _ rfl
          have y5 : wr.cell? ⟨b, off + i * 7 + 5, none⟩ = some (.slice da s.data.length dc) := cc 5 _ rfl
          have y6 : wr.cell? ⟨b, off + i * 7 + 6, none⟩ = some (.int .i64 s.now) := cc 6 _ rfl
          have z1 : (0 : Int) ≤ (i : Int) := by omega
          have z2 : (i : Int) < (ss.length : Int) := by omega
          have z3 : IntKind.i64.wrap ((i : Int) + 1) = (i : Int) + 1 := by rw [IntKind.wrap_i64]; omega
          have hKr : K0 ≤ wr.heap.size := Nat.le_trans (unhide HF).2.1 bel.size
          have okx : okA (xs.map Prod.snd) (cst (ss.take i)) := by rw [e1]; exact okm
          have K12 := mstep_any wr K0 M0 mx lt lim mv xs s da dc (cst (ss.take i)) hKr rM okx hB8 hok (hbi.below bel)
          have hok2 := stepA_ok (mx := mx) (lt := lt) (lim := lim) okm hok
          rw [← hcs, ← hrun] at hok2
          rw [e1] at K12
          obtain ⟨ans, hans⟩ : ∃ a, a = stepA mx lt lim (runA mx lt lim [] (ss.take i)) s := ⟨_, rfl⟩
          rw [← hans] at K12 hrun
          unfold box37 at K12
          have K12 := hide K12
          have FIN : Hid (∀ w', (∃ mv' xs', RepM w' K0 M0 mx lt lim mv' xs' ∧ xs'.map Prod.snd = ans.2 ∧ FrM K0 wr w') → Md0 w w' K0 M0 mx lt lim (runA mx lt lim [] (ss.take (i + 1))) (cst (ss.take (i + 1)))) := fun w' ⟨mv', xs', a1, a2, a3⟩ => ⟨⟨mv', xs', a1, by rw [a2, hrun]⟩, hok2, bel.trans a3.below⟩
          clear HMi hbi hc hok hta hrun hcs hct hcd hB8 rM e1 okm bel hsE cc hKr okx hok2 hans H HOK HCL HF H2 K8 K9
          go_wp2_with (go_at_call 12; refine Calls.mono (unhide K12) ?_; rintro e w7 ⟨v2, mv3, xs3, rfl, -, h3, h4, h5⟩; have H3 : Hid (∃ mv' xs', RepM w7 K0 M0 mx lt lim mv' xs' ∧ xs'.map Prod.snd = ans.2 ∧ FrM K0 wr w7) := ⟨mv3, xs3, h3, h4, h5⟩; clear h3 h4 h5)
          go_roundg (ss.length - (i + 1))
          case measure => omega
          case rel => exact ⟨i + 1, rfl, by omega, by simp, unhide FIN _ (unhide H3)⟩
        · obtain rfl : i = ss.length := by omega
          have z2 : ¬ ((ss.length : Int) < (ss.length : Int)) := by omega
          go_wp2_with fail
          go_meet
          case rel =>
            have q := unhide HMi
            rw [List.take_length] at q
            exact q
    case rest =>
      rename World => w5
      clear HM0
      obtain ⟨⟨mv0, xs0, rM0, e0⟩, okm, b5⟩ := unhide hcut
      have hsm := okm.small (by have := (unhide HCL).1; omega)
      have hxl0 : xs0.length ≤ 1099511627776 := by rw [← e0, List.length_map] at hsm; exact hsm.1
      obtain ⟨AA, hAA⟩ : ∃ A, A = runA mx lt lim [] ss := ⟨_, rfl⟩
      have K13 := mfind_any rM0 port seq hxl0
      rw [e0, ← hAA] at K13
      rw [← hAA] at okm hsm
      have HAA := hide hAA
      have B5 := hide b5
      have OKM := hide (And.intro okm hsm)
      clear hcut rM0 e0 okm b5 hsm hxl0 hAA
      cases hfind : findA port seq AA 0 with
      | none =>
        rw [show findI port seq AA = -1 by rw [findI, hfind]] at K13
        have K13 := hide K13
        clear hfind
        go_wp2_with (go_at_call 13; refine Calls.mono (unhide K13) ?_; rintro e w6 ⟨rfl, hw⟩; obtain rfl : w5 = w6 := hw.symm)
        go_ret
        exact ⟨rfl, unhide B5⟩
      | some j =>
      have eI : findI port seq AA = (j : Int) := by rw [findI, hfind]
      rw [eI] at K13
      have K13 := hide K13
      have EI := hide eI
      have HFI := hide hfind
      clear hfind eI
      have zj : ¬ ((j : Int) < 0) := by omega
      go_upto_region 17 with (go_at_call 13; refine Calls.mono (unhide K13) ?_; rintro e w6 ⟨rfl, hw⟩; obtain rfl : w5 = w6 := hw.symm)
      clear K13
      have hK5 : K0 ≤ w5.heap.size := Nat.le_trans (unhide HF).2.1 (unhide B5).size
      have K8' := hide (unhide K8 w5 hK5)
      go_upto_region 18 with (go_at_call 8; refine Calls.mono (unhide K8') ?_; rintro e w6 ⟨R, rfl, r6, g6⟩; have R6 := hide r6; have G6 := hide g6; clear r6 g6)
      have K9' := hide (unhide K9 w6 (Nat.le_trans hK5 (unhide G6).size))
      clear K8 K9 K8'
      go_upto_region 19 with (go_at_call 9; refine Calls.mono (unhide K9') ?_; rintro e w7 ⟨M, rfl, r7, g7⟩; have R7 := hide r7; have G7 := hide g7; clear r7 g7)
      have bl7 : Below K0 w w7 := (unhide B5).trans (((unhide G6).trans (unhide G7)).below.mono hK5)
      have K10 := run_any F w7 K0 R M mx lt lim [] ss (.slice oa ss.length c) 0 (by rw [bl7.tape]; exact (unhide HF).1) (Nat.le_trans (unhide HF).2.1 bl7.size) (both_new ((unhide R6).below (unhide G7).below) (unhide R7)) (by have := (unhide HCL).1; omega) (unhide HOK).1 (unhide HCL).2.1 ((unhide H).below bl7)
      rw [← unhide HAA] at K10
      have K10 := hide K10
      have BL7 := hide bl7
      clear bl7 R6 R7 G6 G7 K9' hK5 B5
      go_upto_if 80 with (go_at_call 10; refine Calls.mono (unhide K10) ?_; rintro e w8 ⟨rfl, h8, b8⟩; have H8 := hide h8; have B8 := hide b8; clear h8 b8)
      obtain ⟨ok8, ms, mv, xs, rR, gd, rM, e1, e2⟩ := unhide H8
      have bl8 : Below K0 w w8 := (unhide BL7).trans (unhide B8)
      have hlen1 : xs.length = AA.length := by rw [← e2, List.length_map]
      have hlen2 : ms.length = AA.length := by rw [← e1, List.length_map]
      have hxl : xs.length ≤ 1099511627776 := by rw [hlen1]; exact (unhide OKM).2.1
      have K13 := mfind_any rM port seq hxl
      rw [e2, unhide EI] at K13
      have K13 := hide K13
      have hf1 : findA port seq (ms.map Msg.abs) 0 = some j := by rw [e1]; exact unhide HFI
      obtain ⟨hj, hlook⟩ := find_look _ _ _ _ _ hf1
      simp only [Nat.sub_zero] at hj hlook
      have q14 := zzpending_any rR port seq
      rw [lookV, hlook] at q14
      obtain ⟨pa, hpa⟩ : ∃ p, p = (ms[j]).pA := ⟨_, rfl⟩
      have K14 : Calls Tryf.prog 14 #[.pointer (some ⟨R, 0, none⟩), .int .u16 port, .int .u16 seq] w8 fun e w' => e = .returned (.pointer (some ⟨pa, 0, none⟩)) ∧ Gr w8 w' := by rw [hpa]; exact q14
      have K14 := hide K14
      clear q14
      have hKd : KDA (ms.map Msg.abs) := by rw [e1]; exact (unhide OKM).1.kd
      have hno := look_none hKd hf1
      have hoks : okS ms := okS_of (B := cst ss) (by rw [e1]; exact (unhide OKM).1) (by have := (unhide HCL).1; omega)
      have K15 : Hid (∀ W, Gr w8 W → Calls Tryf.prog 15 #[.pointer (some ⟨R, 0, none⟩), .pointer (some ⟨pa, 0, none⟩)] W fun e w' => e = .returned (.tuple #[]) ∧ RepR w' K0 R mx lt lim (ms.eraseIdx j) ∧ Kp W w' ∧ Below K0 W w') := fun W hW => by rw [hpa]; exact zzdrop_any (rR.below hW.below) hoks j hj
      have hK8 : K0 ≤ w8.heap.size := Nat.le_trans (unhide HF).2.1 bl8.size
      have hjx : j < xs.length := by omega
      have hsx : sumA (xs.map Prod.snd) ≤ 1099511627776 := by rw [e2]; exact (unhide OKM).2.2.1
      have FACT := hide (And.intro rM (And.intro hjx (And.intro hxl (And.intro hsx (And.intro gd (And.intro e1 (And.intro e2 (And.intro hno hK8))))))))
      have BL8 := hide bl8
      clear ok8 rR gd rM e1 e2 bl8 hlen1 hlen2 hxl hf1 hj hlook hpa hKd hno hoks hK8 hjx hsx H8 B8 BL7 K10 H
      go_upto_region 24 with (go_at_call 13; refine Calls.mono (unhide K13) ?_; rintro e w9 ⟨rfl, hw⟩; obtain rfl : w8 = w9 := hw.symm)
      clear K13
      go_upto_region 27 with (go_at_call 14; refine Calls.mono (unhide K14) ?_; rintro e w9 ⟨rfl, g9⟩; have G9 := hide g9; clear g9)
      have K15' := hide (unhide K15 w9 (unhide G9))
      clear K14 K15
      go_upto_region 28 with (go_at_call 15; refine Calls.mono (unhide K15') ?_; rintro e w10 ⟨rfl, r10, k10, b10⟩; have R10 := hide r10; have FR10 := hide (FrR.of_kp k10 b10); clear r10 k10 b10)
      have hK9 : K0 ≤ w9.heap.size := Nat.le_trans (unhide FACT).2.2.2.2.2.2.2.2 (unhide G9).size
      have hK10 : K0 ≤ w10.heap.size := Nat.le_trans hK9 (unhide FR10).below.size
      have rM10 := ((unhide FACT).1.below (unhide G9).below).frR (unhide FR10)
      have K16 := hide (remove_any rM10 j (unhide FACT).2.1 (unhide FACT).2.2.1 (unhide FACT).2.2.2.1 hK10)
      have RM10 := hide rM10
      have bl10 : Below K0 w w10 := ((unhide BL8).trans ((unhide G9).below.mono (unhide FACT).2.2.2.2.2.2.2.2)).trans (unhide FR10).below
      have BL10 := hide (And.intro bl10 hK10)
      clear K15' hK9 hK10 rM10 bl10 BL8 G9 FR10
      go_upto_region 29 with (go_at_call 16; refine Calls.mono (unhide K16) ?_; rintro e w11 ⟨rfl, mv11, r11, c11⟩; have R11 := hide r11; have C11 := hide c11; clear r11 c11)
      have fr11 := FrM.of_remove (unhide RM10) (unhide C11) (unhide BL10).2
      have rR11 := (unhide R10).frM fr11
      have bl11 : Below K0 w w11 := (unhide BL10).1.trans fr11.below
      have hK11 : K0 ≤ w11.heap.size := Nat.le_trans (unhide BL10).2 fr11.below.size
      have K14 := zzpending_any rR11 port seq
      rw [(unhide FACT).2.2.2.2.2.2.2.1] at K14
      have K14 := hide K14
      have hee : (ms.eraseIdx j).map Msg.abs = AA.eraseIdx j := by rw [← erase_abs, (unhide FACT).2.2.2.2.2.1]
      have hex : (xs.eraseIdx j).map Prod.snd = AA.eraseIdx j := (map_eraseG Prod.snd xs j).trans (by rw [(unhide FACT).2.2.2.2.2.2.1])
      have hxe : (xs.eraseIdx j).length ≤ 1099511627776 := Nat.le_trans (List.length_eraseIdx_le _ _) (unhide FACT).2.2.1
      have K17 : Hid (∀ W, Gr w11 W → Calls Tryf.prog 17 #[.pointer (some ⟨R, 0, none⟩), .pointer (some ⟨M, 0, none⟩)] W fun e w' => e = .returned (.bool true) ∧ Gr W w') := fun W hW => same_any (rR11.below hW.below) ((unhide R11).below hW.below) (by rw [hee, hex]) hxe
      have K10 : Hid (∀ W, Gr w11 W → Calls Tryf.prog 10 #[.pointer (some ⟨R, 0, none⟩), .pointer (some ⟨M, 0, none⟩), .slice ob n2 c2] W fun e w' => e = .returned (.bool true) ∧ Below K0 w w') := fun W hW => by
        have blW : Below K0 w W := bl11.trans (hW.below.mono hK11)
        have bo : Both W K0 R M mx lt lim (AA.eraseIdx j) (cst ss) := ⟨(unhide OKM).1.sl (List.eraseIdx_sublist _ _), ms.eraseIdx j, mv11, xs.eraseIdx j, rR11.below hW.below, List.Pairwise.sublist (List.eraseIdx_sublist _ _) (unhide FACT).2.2.2.2.1, (unhide R11).below hW.below, hee, hex⟩
        refine (run_any F W K0 R M mx lt lim (AA.eraseIdx j) ts (.slice ob n2 c2) (cst ss) (by rw [blW.tape]; exact (unhide HF).1) (Nat.le_trans (unhide HF).2.1 blW.size) bo (unhide HCL).1.1 (unhide HOK).2 (unhide HCL).2.2 ((unhide H2).below blW)).mono ?_
        rintro e w' ⟨he, -, hb⟩
        exact ⟨he, blW.trans hb⟩
      clear fr11 rR11 bl11 hK11 hee hex hxe RM10 R10 R11 C11 K16 BL10 FACT OKM HFI EI HAA HOK HCL H2
      go_upto_region 31 with (first | (go_at_call 14; refine Calls.mono (unhide K14) ?_; rintro e w12 ⟨rfl, g12⟩; have G12 := hide g12; clear g12) | (go_at_call 17; refine Calls.mono (unhide K17 _ (unhide G12)) ?_; rintro e w13 ⟨rfl, g13⟩; have G13 := hide g13; clear g13))
      have K10' := hide (unhide K10 w13 ((unhide G12).trans (unhide G13)))
      clear K10 K14 K17
      go_wp2_with (go_at_call 10; refine Calls.mono (unhide K10') ?_; rintro e w14 ⟨rfl, b14⟩; have B14 := hide b14; clear b14)
      go_ret
      exact ⟨rfl, unhide B14⟩
end Go.Proofs.Qxb6612998aFmt
