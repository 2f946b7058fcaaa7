import Derived.Test.Qxb6612998aFmtMm5
namespace Go.Proofs.Qxb6612998aFmt
open Go.RowKit Go.Sort

noncomputable def mid12 : Code := match Tryf.f12.body with
  | some c => s2 (s2 c)
  | none => .skip
set_option maxHeartbeats 8000000 in
set_option maxRecDepth 20000 in
set_option linter.unusedSimpArgs false in
theorem mmid (w w1 : World) (K0 M : Nat) (mx lt lim : Int) (mv1 : Value) (xs1 : List MM) (s : Stp) (oa : Option Addr) (dc : Nat) (B : Int) (hK0 : K0 ≤ w.heap.size) (hB : B ≤ 8388608) (hs : okP s) (hv : BI w K0 (.slice oa s.data.length dc) s.data) (r1 : RepM w1 K0 M mx lt lim mv1 xs1) (ok1 : okA (xs1.map Prod.snd) B) (fr1 : FrM K0 w w1) (bb1 : w1.heap[w.heap.size]? = some (.cells (box37 s oa dc) 37 (0, 0))) (ans : Ans × List Abs) (hans : ans = restA mx lim (pickA (xs1.map Prod.snd) s) s) (u7 u8 u9 u10 u11 u12 u13 u14 u15 u16 u17 u18 u19 u20 u21 u22 u23 u24 u25 u26 u27 u28 u29 u30 u31 u32 u33 u34 u35 u36 u37 u38 u39 u40 u41 u42 u43 u44 u45 u46 u47 u48 u49 u50 u51 u52 u53 u54 u55 u56 u57 u58 u59 u60 u61 u62 u63 u64 u65 u66 u67 u68 u69 u70 u71 u72 u73 u74 u75 u76 u77 u78 u79 u80 u81 u82 u83 u84 u85 u86 u87 u88 u89 u90 u91 u92 u93 u94 u95 u96 u97 u98 u99 u100 u101 u102 u103 u104 u105 u106 u107 u108 u109 u110 u111 u112 u113 u114 u115 u116 u117 u118 u119 u120 u121 u122 u123 u124 u125 u126 u127 u128 u129 u130 u131 u132 u133 u134 u135 u136 u137 u138 u139 u140 u141 u142 u143 u144 u145 u146 u147 u148 u149 u150 u151 u152 u153 u154 u155 u156 u157 u158 u159 u160 u161 u162 u163 u164 u165 u166 u167 u168 u169 u170 u171 u172 u173 u174 u175 u176 u177 u178 u179 u180 u181 u182 u183 u184 u185 u186 u187 u188 u189 u190 u191 u192 u193 u194 u195 u196 u197 u198 u199 u200 u201 u202 u203 u204 u205 u206 u207 u208 u209 u210 u211 u212 u213 u214 u215 u216 u217 u218 u219 u220 u221 u222 u223 u224 u225 u226 u227 u228 u229 u230 u231 u232 u233 u234 u235 u236 u237 u238 u239 u240 u241 u242 u243 u244 u245 u246 u247 u248 u249 u250 u251 u252 u253 u254 u255 u256 u257 u258 : Value) :
    Code.wp Tryf.prog mid12 (bodyPost Tryf.prog Tryf.f12 (MStep w K0 M mx lt lim ans)) ⟨#[.pointer (some ⟨M, 0, none⟩), .agg (box37 s oa dc), undef, .pointer (some ⟨w.heap.size, 0, none⟩), .slice none 0 0, .bool false, .bool false, u7, u8, u9, u10, u11, u12, u13, u14, u15, u16, u17, u18, u19, u20, u21, u22, u23, u24, u25, u26, u27, u28, u29, u30, u31, u32, u33, u34, u35, u36, u37, u38, u39, u40, u41, u42, u43, u44, u45, u46, u47, u48, u49, u50, u51, u52, u53, u54, u55, u56, u57, u58, u59, u60, u61, u62, u63, u64, u65, u66, u67, u68, u69, u70, u71, u72, u73, u74, u75, u76, u77, u78, u79, u80, u81, u82, u83, u84, u85, u86, u87, u88, u89, u90, u91, u92, u93, u94, u95, u96, u97, u98, u99, u100, u101, u102, u103, u104, u105, u106, u107, u108, u109, u110, u111, u112, u113, u114, u115, u116, u117, u118, u119, u120, u121, u122, u123, u124, u125, u126, u127, u128, u129, u130, u131, u132, u133, u134, u135, u136, u137, u138, u139, u140, u141, u142, u143, u144, u145, u146, u147, u148, u149, u150, u151, u152, u153, u154, u155, u156, u157, u158, u159, u160, u161, u162, u163, u164, u165, u166, u167, u168, u169, u170, u171, u172, u173, u174, u175, u176, u177, u178, u179, u180, u181, u182, u183, u184, u185, u186, u187, u188, u189, u190, u191, u192, u193, u194, u195, u196, u197, u198, u199, u200, u201, u202, u203, u204, u205, u206, u207, u208, u209, u210, u211, u212, u213, u214, u215, u216, u217, u218, u219, u220, u221, u222, u223, u224, u225, u226, u227, u228, u229, u230, u231, u232, u233, u234, u235, u236, u237, u238, u239, u240, u241, u242, u243, u244, u245, u246, u247, u248, u249, u250, u251, u252, u253, u254, u255, u256, u257, u258], []⟩ w1 := by
  generalize hQ : bodyPost Tryf.prog Tryf.f12 (MStep w K0 M mx lt lim ans) = QQ
  unfold mid12
  simp only [Tryf.f12, s2]
  rw [← hQ]
  clear hQ
  unfold box37
  have HS := hide hs
  have HV := hide hv
  have HK0 := hide (And.intro hK0 hB)
  have STE := hide hans
  have OK1 := hide ok1
  have hmo : Tryf.prog.follows .mixedOrders = true := hmo
  clear hs hv hK0 hB hans ok1
  have hsm := (unhide OK1).small (by have := (unhide HK0).2; omega)
  rw [List.length_map] at hsm
  have HSM := hide hsm
  have z1 : w1.cell? ⟨w.heap.size, 1, none⟩ = some (.int .u8 s.flags) := cell_of bb1 1
  have z0 : w1.cell? ⟨w.heap.size, 0, none⟩ = some (.int .u16 s.port) := cell_of bb1 0
  have z2 : w1.cell? ⟨w.heap.size, 2, none⟩ = some (.int .u16 s.seq) := cell_of bb1 2
  have ff := flag_and s.flags (unhide HS).flags.1 (unhide HS).flags.2
  have K13 := hide (mfind_any r1 s.port s.seq hsm.1)
  obtain ⟨fI, hfI⟩ : ∃ f, f = findI s.port s.seq (xs1.map Prod.snd) := ⟨_, rfl⟩
  rw [← hfI] at K13
  have HFI := hide hfI
  have R1 := hide r1
  have FR1 := hide fr1
  have BB1 := hide bb1
  clear r1 fr1 bb1 hfI hsm
  go_upto_region 5 with (go_at_call 13; refine Calls.mono (unhide K13) ?_; rintro e w2 ⟨rfl, hw2⟩; obtain rfl : w1 = w2 := hw2.symm)
  clear z0 z1 z2 ff K13
  go_cut [80] from 50 to 80 (fun c wx => Hid (c = .bool (badA (xs1.map Prod.snd) s) ∧ ∃ n, wx = w1.drewN n))
  case first => -- DONE
    cases hfd : findA s.port s.seq (xs1.map Prod.snd) 0 with
    | none =>
      have ef : fI = -1 := by rw [unhide HFI, findI, hfd]
      have ebad : badA (xs1.map Prod.snd) s = false := by unfold badA; rw [hfd]
      subst ef
      have EB := hide ebad
      clear hfd ebad
      go_quiet (fail)
      go_wp2_with fail
      go_meet
      case rel => exact ⟨by rw [unhide EB], nq, rfl⟩
    | some j =>
      have ef : fI = (j : Int) := by rw [unhide HFI, findI, hfd]
      obtain ⟨-, hj, -⟩ := findA_some _ _ _ _ _ hfd
      simp only [Nat.sub_zero, List.length_map] at hj
      obtain ⟨g, cap, rfl, -, -, hrow⟩ := (unhide R1).row (by intro e; rw [e] at hj; simp at hj)
      have hx := hrow j hj
      obtain ⟨cs, hcs, hmc⟩ := ((unhide R1).each _ (List.getElem_mem hj)).2
      have ebad : badA (xs1.map Prod.snd) s = !(decide ((xs1[j]).2.parts = s.parts) && (defl (xs1[j]).2.flags == defl s.flags)) := by
        unfold badA
        rw [hfd]
        simp only [List.getElem?_map, List.getElem?_eq_getElem hj, Option.map_some]
      subst ef
      have y1 : ∀ n, (w1.drewN n).cell? ⟨M, 3, none⟩ = some (.slice (some ⟨g, 0, none⟩) xs1.length cap) := fun _ => cell_of (unhide R1).root 3
      have y2 : ∀ n, (w1.drewN n).cell? ⟨g, j, none⟩ = some (.pointer (some ⟨(xs1[j]).1, 0, none⟩)) := fun _ => hx
      have y3 : ∀ n, (w1.drewN n).cell? ⟨(xs1[j]).1, 3, none⟩ = some (.int .i64 (xs1[j]).2.parts) := fun _ => (cell_of hcs 3).trans hmc.parts
      have y4 : ∀ n, (w1.drewN n).cell? ⟨(xs1[j]).1, 2, none⟩ = some (.bool (defl (xs1[j]).2.flags)) := fun _ => (cell_of hcs 2).trans hmc.defl
      have y5 : ∀ n, (w1.drewN n).cell? ⟨w.heap.size, 4, none⟩ = some (.int .i64 s.parts) := fun _ => cell_of (unhide BB1) 4
      have b1 : (0 : Int) ≤ (j : Int) := by omega
      have b2 : (j : Int) < (xs1.length : Int) := by omega
      have b3 : decide ((0 : Int) ≤ (j : Int)) = true := by simp
      have EB := hide ebad
      clear hfd ebad hx hrow hcs hmc
      generalize (xs1[j]).1 = A at *
      generalize (xs1[j]).2.parts = mp1 at *
      generalize defl (xs1[j]).2.flags = md1 at *
      by_cases c1 : mp1 = s.parts
      · subst c1
        go_quiet (fail)
        go_wp2_with fail
        go_meet
        case rel => exact ⟨by rw [unhide EB]; simp, nq, rfl⟩
      · go_quiet (fail)
        go_wp2_with fail
        go_meet
        case rel => exact ⟨by rw [unhide EB]; simp [c1], nq, rfl⟩
  case rest =>
    rename World => wx
    obtain ⟨rfl, n4, hwx⟩ := unhide hcut
    have FR4 : Hid (FrM K0 w wx) := by rw [hwx]; exact (unhide FR1).trans (FrM.of_below (Gr.below ((Gr.refl w1).drewN n4)) (Nat.le_trans (unhide HK0).1 (unhide FR1).below.size))
    have R4 : Hid (RepM wx K0 M mx lt lim mv1 xs1) := by rw [hwx]; exact (unhide R1).below (Gr.below ((Gr.refl w1).drewN n4))
    have BB4 : Hid (wx.heap[w.heap.size]? = some (.cells (box37 s oa dc) 37 (0, 0))) := by rw [hwx]; exact BB1
    clear hcut hwx R1 FR1 BB1
    go_upto_if 80 with fail
    go_cut [8] (fun v8 w' => Hid (∃ mv2 xs2 oi, v8 = .int .i64 (oiI oi) ∧ pickA (xs1.map Prod.snd) s = (xs2.map Prod.snd, oi) ∧ RepM w' K0 M mx lt lim mv2 xs2 ∧ FrM K0 w w' ∧ w'.heap[w.heap.size]? = some (.cells (box37 s oa dc) 37 (0, 0))))
    case first => -- DONE
      cases hfd : findA s.port s.seq (xs1.map Prod.snd) 0 with
      | none =>
        have ef : fI = -1 := by rw [unhide HFI, findI, hfd]
        have ebad : badA (xs1.map Prod.snd) s = false := by unfold badA; rw [hfd]
        have epick : pickA (xs1.map Prod.snd) s = (xs1.map Prod.snd, none) := by unfold pickA; rw [hfd]
        rw [ebad]
        have EP := hide epick
        have EF := hide ef
        clear hfd ebad epick ef
        go_wp2_with fail
        go_meet
        case rel => exact ⟨mv1, xs1, none, by rw [unhide EF]; rfl, unhide EP, unhide R4, unhide FR4, unhide BB4⟩
      | some j =>
        have ef : fI = (j : Int) := by rw [unhide HFI, findI, hfd]
        obtain ⟨-, hj, -⟩ := findA_some _ _ _ _ _ hfd
        simp only [Nat.sub_zero, List.length_map] at hj
        have ebad : badA (xs1.map Prod.snd) s = !(decide ((xs1[j]).2.parts = s.parts) && (defl (xs1[j]).2.flags == defl s.flags)) := by
          unfold badA
          rw [hfd]
          simp only [List.getElem?_map, List.getElem?_eq_getElem hj, Option.map_some]
        have epick : pickA (xs1.map Prod.snd) s = if (xs1[j]).2.parts = s.parts ∧ defl (xs1[j]).2.flags = defl s.flags then (xs1.map Prod.snd, some j) else ((xs1.map Prod.snd).eraseIdx j, none) := by
          unfold pickA
          rw [hfd]
          simp only [List.getElem?_map, List.getElem?_eq_getElem hj, Option.map_some]
        subst ef
        by_cases cc : (xs1[j]).2.parts = s.parts ∧ defl (xs1[j]).2.flags = defl s.flags
        · rw [if_pos cc] at epick
          have eb : badA (xs1.map Prod.snd) s = false := by rw [ebad]; simp [cc.1, cc.2]
          rw [eb]
          have EP := hide epick
          clear hfd ebad epick eb cc
          go_wp2_with fail
          go_meet
          case rel => exact ⟨mv1, xs1, some j, rfl, unhide EP, unhide R4, unhide FR4, unhide BB4⟩
        · rw [if_neg cc, ← mapE] at epick
          have eb : badA (xs1.map Prod.snd) s = true := by
            rw [ebad]
            rw [Bool.not_eq_true', Bool.and_eq_false_iff]
            by_cases c1 : (xs1[j]).2.parts = s.parts
            · right; simp; exact fun e => cc ⟨c1, e⟩
            · left; simp [c1]
          rw [eb]
          have hWK := Nat.le_trans (unhide HK0).1 (unhide FR4).below.size
          have K16 := hide (remove_any (unhide R4) j hj (unhide HSM).1 (unhide HSM).2.1 hWK)
          have HWK := hide hWK
          have EP := hide epick
          clear hfd ebad epick eb cc hWK
          go_wp2_with (go_at_call 16; refine Calls.mono (unhide K16) ?_; rintro e w5 ⟨rfl, h5⟩; have H5 := hide h5; clear h5)
          go_meet
          case rel =>
            obtain ⟨mv5, r5, c5⟩ := unhide H5
            have hF := FrM.of_remove (unhide R4) c5 (unhide HWK)
            exact ⟨mv5, xs1.eraseIdx j, none, rfl, unhide EP, r5, (unhide FR4).trans hF, hF.cells (unhide BB4) (by decide)⟩
    case rest =>
      rename World => w5
      obtain ⟨mv2, xs2, oi, rfl, epick, r5, fr5, bb5⟩ := unhide hcut
      have ok2 := pickA_ok (s := s) (unhide OK1)
      rw [epick] at ok2
      have hans2 : ans = restA mx lim (xs2.map Prod.snd, oi) s := by rw [← epick]; exact unhide STE
      clear hcut epick FR4 R4 BB4 HFI OK1 HSM STE
      rename ∀ (a : Act) (w1 : World), Code.wp Tryf.prog _ _ a w1 → _ => hKK
      refine hKK _ _ ?_
      clear hKK
      exact mfive2 w w5 K0 M mx lt lim mv2 xs2 oi s oa dc B (unhide HK0).1 (unhide HK0).2 (unhide HS) (unhide HV) r5 ok2 fr5 bb5 ans hans2 _ _ _ _ _ _ _ _ _ _ _ _ _ _ _ _ _ _ _ _ _ _ _ _ _ _ _ _ _ _ _ _ _ _ _ _ _ _ _ _ _ _ _ _ _ _ _ _ _ _ _ _ _ _ _ _ _ _ _ _ _ _ _ _ _ _ _ _ _ _ _ _ _ _ _ _ _ _ _ _ _ _ _ _ _ _ _ _ _ _ _ _ _ _ _ _ _ _ _ _ _ _ _ _ _ _ _ _ _ _ _ _ _ _ _ _ _ _ _ _ _ _ _ _ _ _ _ _ _ _ _ _ _ _ _ _ _ _ _ _ _ _ _ _ _ _ _ _ _ _ _ _ _ _ _ _ _ _ _ _ _ _ _ _ _ _ _ _ _ _ _ _ _ _ _ _ _ _ _ _ _ _ _ _ _ _ _ _ _ _ _ _ _ _ _ _ _ _ _ _ _ _ _ _ _ _ _ _ _ _ _ _ _ _ _ _ _ _ _ _ _ _ _ _ _ _ _ _ _ _ _ _ _ _ _ _ _ _ _ _ _ _ _ _ _ _ _ _ _ _ _ rfl

theorem mmid2 (w w1 : World) (K0 M : Nat) (mx lt lim : Int) (mv1 : Value) (xs1 : List MM) (s : Stp) (oa : Option Addr) (dc : Nat) (B : Int) (hK0 : K0 ≤ w.heap.size) (hB : B ≤ 8388608) (hs : okP s) (hv : BI w K0 (.slice oa s.data.length dc) s.data) (r1 : RepM w1 K0 M mx lt lim mv1 xs1) (ok1 : okA (xs1.map Prod.snd) B) (fr1 : FrM K0 w w1) (bb1 : w1.heap[w.heap.size]? = some (.cells (box37 s oa dc) 37 (0, 0))) (ans : Ans × List Abs) (hans : ans = restA mx lim (pickA (xs1.map Prod.snd) s) s) (u7 u8 u9 u10 u11 u12 u13 u14 u15 u16 u17 u18 u19 u20 u21 u22 u23 u24 u25 u26 u27 u28 u29 u30 u31 u32 u33 u34 u35 u36 u37 u38 u39 u40 u41 u42 u43 u44 u45 u46 u47 u48 u49 u50 u51 u52 u53 u54 u55 u56 u57 u58 u59 u60 u61 u62 u63 u64 u65 u66 u67 u68 u69 u70 u71 u72 u73 u74 u75 u76 u77 u78 u79 u80 u81 u82 u83 u84 u85 u86 u87 u88 u89 u90 u91 u92 u93 u94 u95 u96 u97 u98 u99 u100 u101 u102 u103 u104 u105 u106 u107 u108 u109 u110 u111 u112 u113 u114 u115 u116 u117 u118 u119 u120 u121 u122 u123 u124 u125 u126 u127 u128 u129 u130 u131 u132 u133 u134 u135 u136 u137 u138 u139 u140 u141 u142 u143 u144 u145 u146 u147 u148 u149 u150 u151 u152 u153 u154 u155 u156 u157 u158 u159 u160 u161 u162 u163 u164 u165 u166 u167 u168 u169 u170 u171 u172 u173 u174 u175 u176 u177 u178 u179 u180 u181 u182 u183 u184 u185 u186 u187 u188 u189 u190 u191 u192 u193 u194 u195 u196 u197 u198 u199 u200 u201 u202 u203 u204 u205 u206 u207 u208 u209 u210 u211 u212 u213 u214 u215 u216 u217 u218 u219 u220 u221 u222 u223 u224 u225 u226 u227 u228 u229 u230 u231 u232 u233 u234 u235 u236 u237 u238 u239 u240 u241 u242 u243 u244 u245 u246 u247 u248 u249 u250 u251 u252 u253 u254 u255 u256 u257 u258 : Value) (c : Code) (hc : mid12 = c) :
    Code.wp Tryf.prog c (bodyPost Tryf.prog Tryf.f12 (MStep w K0 M mx lt lim ans)) ⟨#[.pointer (some ⟨M, 0, none⟩), .agg (box37 s oa dc), undef, .pointer (some ⟨w.heap.size, 0, none⟩), .slice none 0 0, .bool false, .bool false, u7, u8, u9, u10, u11, u12, u13, u14, u15, u16, u17, u18, u19, u20, u21, u22, u23, u24, u25, u26, u27, u28, u29, u30, u31, u32, u33, u34, u35, u36, u37, u38, u39, u40, u41, u42, u43, u44, u45, u46, u47, u48, u49, u50, u51, u52, u53, u54, u55, u56, u57, u58, u59, u60, u61, u62, u63, u64, u65, u66, u67, u68, u69, u70, u71, u72, u73, u74, u75, u76, u77, u78, u79, u80, u81, u82, u83, u84, u85, u86, u87, u88, u89, u90, u91, u92, u93, u94, u95, u96, u97, u98, u99, u100, u101, u102, u103, u104, u105, u106, u107, u108, u109, u110, u111, u112, u113, u114, u115, u116, u117, u118, u119, u120, u121, u122, u123, u124, u125, u126, u127, u128, u129, u130, u131, u132, u133, u134, u135, u136, u137, u138, u139, u140, u141, u142, u143, u144, u145, u146, u147, u148, u149, u150, u151, u152, u153, u154, u155, u156, u157, u158, u159, u160, u161, u162, u163, u164, u165, u166, u167, u168, u169, u170, u171, u172, u173, u174, u175, u176, u177, u178, u179, u180, u181, u182, u183, u184, u185, u186, u187, u188, u189, u190, u191, u192, u193, u194, u195, u196, u197, u198, u199, u200, u201, u202, u203, u204, u205, u206, u207, u208, u209, u210, u211, u212, u213, u214, u215, u216, u217, u218, u219, u220, u221, u222, u223, u224, u225, u226, u227, u228, u229, u230, u231, u232, u233, u234, u235, u236, u237, u238, u239, u240, u241, u242, u243, u244, u245, u246, u247, u248, u249, u250, u251, u252, u253, u254, u255, u256, u257, u258], []⟩ w1 := by
  subst hc
  exact mmid w w1 K0 M mx lt lim mv1 xs1 s oa dc B hK0 hB hs hv r1 ok1 fr1 bb1 ans hans u7 u8 u9 u10 u11 u12 u13 u14 u15 u16 u17 u18 u19 u20 u21 u22 u23 u24 u25 u26 u27 u28 u29 u30 u31 u32 u33 u34 u35 u36 u37 u38 u39 u40 u41 u42 u43 u44 u45 u46 u47 u48 u49 u50 u51 u52 u53 u54 u55 u56 u57 u58 u59 u60 u61 u62 u63 u64 u65 u66 u67 u68 u69 u70 u71 u72 u73 u74 u75 u76 u77 u78 u79 u80 u81 u82 u83 u84 u85 u86 u87 u88 u89 u90 u91 u92 u93 u94 u95 u96 u97 u98 u99 u100 u101 u102 u103 u104 u105 u106 u107 u108 u109 u110 u111 u112 u113 u114 u115 u116 u117 u118 u119 u120 u121 u122 u123 u124 u125 u126 u127 u128 u129 u130 u131 u132 u133 u134 u135 u136 u137 u138 u139 u140 u141 u142 u143 u144 u145 u146 u147 u148 u149 u150 u151 u152 u153 u154 u155 u156 u157 u158 u159 u160 u161 u162 u163 u164 u165 u166 u167 u168 u169 u170 u171 u172 u173 u174 u175 u176 u177 u178 u179 u180 u181 u182 u183 u184 u185 u186 u187 u188 u189 u190 u191 u192 u193 u194 u195 u196 u197 u198 u199 u200 u201 u202 u203 u204 u205 u206 u207 u208 u209 u210 u211 u212 u213 u214 u215 u216 u217 u218 u219 u220 u221 u222 u223 u224 u225 u226 u227 u228 u229 u230 u231 u232 u233 u234 u235 u236 u237 u238 u239 u240 u241 u242 u243 u244 u245 u246 u247 u248 u249 u250 u251 u252 u253 u254 u255 u256 u257 u258
end Go.Proofs.Qxb6612998aFmt
