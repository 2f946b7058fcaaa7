import Derived.Test.Qxb6612998aFmtMtl
namespace Go.Proofs.Qxb6612998aFmt
open Go.RowKit Go.Sort

theorem mtail2 (w w6 : World) (K0 M : Nat) (mx lt lim : Int) (mv3 : Value) (xs3 : List MM) (i : Nat) (s : Stp) (oa : Option Addr) (dc : Nat) (B : Int) (hi : i < xs3.length) (hK0 : K0 ≤ w.heap.size) (hB : B ≤ 8388608) (hs : okP s) (hv : BI w K0 (.slice oa s.data.length dc) s.data)
    (r6 : RepM w6 K0 M mx lt lim mv3 xs3) (ok6 : okA (xs3.map Prod.snd) (B + 256)) (hparts : (xs3[i]).2.parts = s.parts) (fr6 : FrM K0 w w6) (bb6 : w6.heap[w.heap.size]? = some (.cells (box37 s oa dc) 37 (0, 0))) (u9 u10 u11 u12 u13 u14 u15 u16 u17 u18 u19 u20 u21 u22 u23 u24 u25 u26 u27 u28 u29 u30 u31 u32 u33 u34 u35 u36 u37 u38 u39 u40 u41 u42 u43 u44 u45 u46 u47 u48 u49 u50 u51 u52 u53 u54 u55 u56 u57 u58 u59 u60 u61 u62 u63 u64 u65 u66 u67 u68 u69 u70 u71 u72 u73 u74 u75 u76 u77 u78 u79 u80 u81 u82 u83 u84 u85 u86 u87 u88 u89 u90 u91 u92 u93 u94 u95 u96 u97 u98 u99 u100 u101 u102 u103 u104 u105 u106 u107 u108 u109 u110 u111 u112 u113 u114 u115 u116 u117 u118 u119 u120 u121 u122 u123 u124 u125 u126 u127 u128 u129 u130 u131 u132 u133 u134 u135 u136 u137 u138 u139 u140 u141 u142 u143 u144 u145 u146 u147 u148 u149 u150 u151 u152 u153 u154 u155 u156 u157 u158 u159 u160 u161 u162 u163 u164 u165 u166 u167 u168 u169 u170 u171 u172 u173 u174 u175 u176 u177 u178 u179 u180 u181 u182 u183 u184 u185 u186 u187 u188 u189 u190 u191 u192 u193 u194 u195 u196 u197 u198 u199 u200 u201 u202 u203 u204 u205 u206 u207 u208 u209 u210 u211 u212 u213 u214 u215 u216 u217 u218 u219 u220 u221 u222 u223 u224 u225 u226 u227 u228 u229 u230 u231 u232 u233 u234 u235 u236 u237 u238 u239 u240 u241 u242 u243 u244 u245 u246 u247 u248 u249 u250 u251 u252 u253 u254 u255 u256 u257 u258 : Value) (ans : Ans × List Abs) (ha : putA mx lim (xs3.map Prod.snd) i s = ans) (c : Code) (hc : tail12 = c) :
    Code.wp Tryf.prog c (bodyPost Tryf.prog Tryf.f12 (MStep w K0 M mx lt lim ans)) ⟨#[.pointer (some ⟨M, 0, none⟩), .agg (box37 s oa dc), undef, .pointer (some ⟨w.heap.size, 0, none⟩), .slice none 0 0, .bool false, .bool false, .bool (defl s.flags), .int .i64 (i : Int), u9, u10, u11, u12, u13, u14, u15, u16, u17, u18, u19, u20, u21, u22, u23, u24, u25, u26, u27, u28, u29, u30, u31, u32, u33, u34, u35, u36, u37, u38, u39, u40, u41, u42, u43, u44, u45, u46, u47, u48, u49, u50, u51, u52, u53, u54, u55, u56, u57, u58, u59, u60, u61, u62, u63, u64, u65, u66, u67, u68, u69, u70, u71, u72, u73, u74, u75, u76, u77, u78, u79, u80, u81, u82, u83, u84, u85, u86, u87, u88, u89, u90, u91, u92, u93, u94, u95, u96, u97, u98, u99, u100, u101, u102, u103, u104, u105, u106, u107, u108, u109, u110, u111, u112, u113, u114, u115, u116, u117, u118, u119, u120, u121, u122, u123, u124, u125, u126, u127, u128, u129, u130, u131, u132, u133, u134, u135, u136, u137, u138, u139, u140, u141, u142, u143, u144, u145, u146, u147, u148, u149, u150, u151, u152, u153, u154, u155, u156, u157, u158, u159, u160, u161, u162, u163, u164, u165, u166, u167, u168, u169, u170, u171, u172, u173, u174, u175, u176, u177, u178, u179, u180, u181, u182, u183, u184, u185, u186, u187, u188, u189, u190, u191, u192, u193, u194, u195, u196, u197, u198, u199, u200, u201, u202, u203, u204, u205, u206, u207, u208, u209, u210, u211, u212, u213, u214, u215, u216, u217, u218, u219, u220, u221, u222, u223, u224, u225, u226, u227, u228, u229, u230, u231, u232, u233, u234, u235, u236, u237, u238, u239, u240, u241, u242, u243, u244, u245, u246, u247, u248, u249, u250, u251, u252, u253, u254, u255, u256, u257, u258], []⟩ w6 := by
  subst ha hc
  exact mtail w w6 K0 M mx lt lim mv3 xs3 i s oa dc B hi hK0 hB hs hv r6 ok6 hparts fr6 bb6 u9 u10 u11 u12 u13 u14 u15 u16 u17 u18 u19 u20 u21 u22 u23 u24 u25 u26 u27 u28 u29 u30 u31 u32 u33 u34 u35 u36 u37 u38 u39 u40 u41 u42 u43 u44 u45 u46 u47 u48 u49 u50 u51 u52 u53 u54 u55 u56 u57 u58 u59 u60 u61 u62 u63 u64 u65 u66 u67 u68 u69 u70 u71 u72 u73 u74 u75 u76 u77 u78 u79 u80 u81 u82 u83 u84 u85 u86 u87 u88 u89 u90 u91 u92 u93 u94 u95 u96 u97 u98 u99 u100 u101 u102 u103 u104 u105 u106 u107 u108 u109 u110 u111 u112 u113 u114 u115 u116 u117 u118 u119 u120 u121 u122 u123 u124 u125 u126 u127 u128 u129 u130 u131 u132 u133 u134 u135 u136 u137 u138 u139 u140 u141 u142 u143 u144 u145 u146 u147 u148 u149 u150 u151 u152 u153 u154 u155 u156 u157 u158 u159 u160 u161 u162 u163 u164 u165 u166 u167 u168 u169 u170 u171 u172 u173 u174 u175 u176 u177 u178 u179 u180 u181 u182 u183 u184 u185 u186 u187 u188 u189 u190 u191 u192 u193 u194 u195 u196 u197 u198 u199 u200 u201 u202 u203 u204 u205 u206 u207 u208 u209 u210 u211 u212 u213 u214 u215 u216 u217 u218 u219 u220 u221 u222 u223 u224 u225 u226 u227 u228 u229 u230 u231 u232 u233 u234 u235 u236 u237 u238 u239 u240 u241 u242 u243 u244 u245 u246 u247 u248 u249 u250 u251 u252 u253 u254 u255 u256 u257 u258


noncomputable def five12 : Code := match Tryf.f12.body with
  | some c => s2 (s2 (s2 (s2 (s2 c))))
  | none => .skip
set_option maxHeartbeats 8000000 in
set_option maxRecDepth 20000 in
set_option linter.unusedSimpArgs false in
theorem mfive (w w5 : World) (K0 M : Nat) (mx lt lim : Int) (mv2 : Value) (xs2 : List MM) (oi : Option Nat) (s : Stp) (oa : Option Addr) (dc : Nat) (B : Int) (hK0 : K0 ≤ w.heap.size) (hB : B ≤ 8388608) (hs : okP s) (hv : BI w K0 (.slice oa s.data.length dc) s.data) (r5 : RepM w5 K0 M mx lt lim mv2 xs2) (ok2 : okA (xs2.map Prod.snd) B ∧ (∀ i, oi = some i → ∃ a, (xs2.map Prod.snd)[i]? = some a ∧ a.parts = s.parts ∧ defl a.flags = defl s.flags) ∧ (oi = none → findA s.port s.seq (xs2.map Prod.snd) 0 = none)) (fr5 : FrM K0 w w5) (bb5 : w5.heap[w.heap.size]? = some (.cells (box37 s oa dc) 37 (0, 0))) (ans : Ans × List Abs) (hans : ans = restA mx lim (xs2.map Prod.snd, oi) s) (u9 u10 u11 u12 u13 u14 u15 u16 u17 u18 u19 u20 u21 u22 u23 u24 u25 u26 u27 u28 u29 u30 u31 u32 u33 u34 u35 u36 u37 u38 u39 u40 u41 u42 u43 u44 u45 u46 u47 u48 u49 u50 u51 u52 u53 u54 u55 u56 u57 u58 u59 u60 u61 u62 u63 u64 u65 u66 u67 u68 u69 u70 u71 u72 u73 u74 u75 u76 u77 u78 u79 u80 u81 u82 u83 u84 u85 u86 u87 u88 u89 u90 u91 u92 u93 u94 u95 u96 u97 u98 u99 u100 u101 u102 u103 u104 u105 u106 u107 u108 u109 u110 u111 u112 u113 u114 u115 u116 u117 u118 u119 u120 u121 u122 u123 u124 u125 u126 u127 u128 u129 u130 u131 u132 u133 u134 u135 u136 u137 u138 u139 u140 u141 u142 u143 u144 u145 u146 u147 u148 u149 u150 u151 u152 u153 u154 u155 u156 u157 u158 u159 u160 u161 u162 u163 u164 u165 u166 u167 u168 u169 u170 u171 u172 u173 u174 u175 u176 u177 u178 u179 u180 u181 u182 u183 u184 u185 u186 u187 u188 u189 u190 u191 u192 u193 u194 u195 u196 u197 u198 u199 u200 u201 u202 u203 u204 u205 u206 u207 u208 u209 u210 u211 u212 u213 u214 u215 u216 u217 u218 u219 u220 u221 u222 u223 u224 u225 u226 u227 u228 u229 u230 u231 u232 u233 u234 u235 u236 u237 u238 u239 u240 u241 u242 u243 u244 u245 u246 u247 u248 u249 u250 u251 u252 u253 u254 u255 u256 u257 u258 : Value) :
    Code.wp Tryf.prog five12 (bodyPost Tryf.prog Tryf.f12 (MStep w K0 M mx lt lim ans)) ⟨#[.pointer (some ⟨M, 0, none⟩), .agg (box37 s oa dc), undef, .pointer (some ⟨w.heap.size, 0, none⟩), .slice none 0 0, .bool false, .bool false, .bool (defl s.flags), .int .i64 (oiI oi), u9, u10, u11, u12, u13, u14, u15, u16, u17, u18, u19, u20, u21, u22, u23, u24, u25, u26, u27, u28, u29, u30, u31, u32, u33, u34, u35, u36, u37, u38, u39, u40, u41, u42, u43, u44, u45, u46, u47, u48, u49, u50, u51, u52, u53, u54, u55, u56, u57, u58, u59, u60, u61, u62, u63, u64, u65, u66, u67, u68, u69, u70, u71, u72, u73, u74, u75, u76, u77, u78, u79, u80, u81, u82, u83, u84, u85, u86, u87, u88, u89, u90, u91, u92, u93, u94, u95, u96, u97, u98, u99, u100, u101, u102, u103, u104, u105, u106, u107, u108, u109, u110, u111, u112, u113, u114, u115, u116, u117, u118, u119, u120, u121, u122, u123, u124, u125, u126, u127, u128, u129, u130, u131, u132, u133, u134, u135, u136, u137, u138, u139, u140, u141, u142, u143, u144, u145, u146, u147, u148, u149, u150, u151, u152, u153, u154, u155, u156, u157, u158, u159, u160, u161, u162, u163, u164, u165, u166, u167, u168, u169, u170, u171, u172, u173, u174, u175, u176, u177, u178, u179, u180, u181, u182, u183, u184, u185, u186, u187, u188, u189, u190, u191, u192, u193, u194, u195, u196, u197, u198, u199, u200, u201, u202, u203, u204, u205, u206, u207, u208, u209, u210, u211, u212, u213, u214, u215, u216, u217, u218, u219, u220, u221, u222, u223, u224, u225, u226, u227, u228, u229, u230, u231, u232, u233, u234, u235, u236, u237, u238, u239, u240, u241, u242, u243, u244, u245, u246, u247, u248, u249, u250, u251, u252, u253, u254, u255, u256, u257, u258], []⟩ w5 := by
  generalize hQ : bodyPost Tryf.prog Tryf.f12 (MStep w K0 M mx lt lim ans) = QQ
  unfold five12
  simp only [Tryf.f12, s2]
  rw [← hQ]
  clear hQ
  unfold box37
  have HS := hide hs
  have HV := hide hv
  have HK0 := hide (And.intro hK0 hB)
  have STE := hide hans
  have OK2 := hide ok2
  have R5 := hide r5
  have FR5 := hide fr5
  have BB5 := hide bb5
  have hmo : Tryf.prog.follows .mixedOrders = true := hmo
  clear hs hv hK0 hB hans ok2
  have z4 : w5.cell? ⟨w.heap.size, 4, none⟩ = some (.int .i64 s.parts) := cell_of bb5 4
  clear r5 fr5 bb5
  go_upto_region 8 with fail
  go_cut [8, 90] from 84 to 90 (fun v c wx => v = .int .i64 (oiI oi) ∧ c = .bool (oi.isNone && decide (s.parts = 1)) ∧ wx = w5)
  case first => -- DONE
    cases oi with
    | none =>
      rw [show oiI none = -1 from rfl]
      go_wp2_with fail
      go_meet
      case rel => exact ⟨rfl, rfl, rfl⟩
    | some i =>
      rw [show oiI (some i) = (i : Int) from rfl]
      have b1 : ¬ ((i : Int) < 0) := by omega
      go_wp2_with fail
      go_meet
      case rel => exact ⟨rfl, rfl, rfl⟩
  case rest =>
    rename World => wx
    obtain ⟨rfl, rfl, rfl⟩ := hcut
    by_cases c1 : (oi.isNone && decide (s.parts = 1)) = true
    · -- DONE
      rw [c1]
      simp only [Bool.and_eq_true, decide_eq_true_eq] at c1
      obtain ⟨c1, c2⟩ := c1
      have z5 : wx.cell? ⟨w.heap.size, 5, none⟩ = some (.slice oa s.data.length dc) := cell_of (unhide BB5) 5
      obtain rfl : oi = none := by simpa using c1
      go_wp2_with fail
      refine bodyPost_ret (v := .tuple #[.slice oa s.data.length dc, .bool true, .bool false]) (by simp [results, Tryf.results12, go_sem]) rfl ?_
      rw [unhide STE, restA, if_pos c2]
      exact ⟨_, mv2, xs2, rfl, Or.inl ((unhide HV).below (unhide FR5).below), unhide R5, rfl, unhide FR5⟩
    · rw [Bool.eq_false_iff.2 c1]
      have C1 := hide c1
      clear c1
      go_upto_region 10 with fail
      go_cut [8, 94] from 93 to 94 (fun v c w' => v = .int .i64 (oiI oi) ∧ c = .bool oi.isNone ∧ w' = wx)
      case first => -- DONE
        cases oi with
        | none =>
          rw [show oiI none = -1 from rfl]
          go_wp2_with fail
          go_meet
          case rel => exact ⟨rfl, rfl, rfl⟩
        | some i =>
          rw [show oiI (some i) = (i : Int) from rfl]
          have b1 : ¬ ((i : Int) < 0) := by omega
          go_wp2_with fail
          go_meet
          case rel => exact ⟨rfl, by simp, rfl⟩
      case rest =>
        rename World => wy
        obtain ⟨rfl, rfl, rfl⟩ := hcut
        go_upto_if 94 with fail
        go_cut [8] (fun v w' => Hid (∃ (mv3 : Value) (xs3 : List MM) (i : Nat), ∃ hi : i < xs3.length, v = .int .i64 (i : Int) ∧ restA mx lim (xs2.map Prod.snd, oi) s = putA mx lim (xs3.map Prod.snd) i s ∧ RepM w' K0 M mx lt lim mv3 xs3 ∧ okA (xs3.map Prod.snd) (B + 256) ∧ (xs3[i]).2.parts = s.parts ∧ FrM K0 w w' ∧ w'.heap[w.heap.size]? = some (.cells (box37 s oa dc) 37 (0, 0))))
        case first => -- DONE
          cases oi with
          | some i =>
            obtain ⟨a, ha, hap, -⟩ := (unhide OK2).2.1 i rfl
            have hi : i < xs2.length := by have := (List.getElem?_eq_some_iff.1 ha).1; simpa using this
            have hpp : (xs2[i]).2.parts = s.parts := by
              simp only [List.getElem?_map, List.getElem?_eq_getElem hi, Option.map_some, Option.some.injEq] at ha
              rw [← hap, ← ha]
            rw [show oiI (some i) = (i : Int) from rfl]
            clear ha hap
            go_wp2_with fail
            go_meet
            case rel => exact ⟨mv2, xs2, i, hi, rfl, rfl, unhide R5, (unhide OK2).1.mono (by omega), hpp, unhide FR5, unhide BB5⟩
          | none =>
          have hp1 : ¬ s.parts = 1 := fun e => unhide C1 (by simp [e])
          have HNF := hide ((unhide OK2).2.2 rfl)
          obtain ⟨o2, c2, rfl⟩ := (unhide R5).shape
          obtain ⟨Z, hZ⟩ : ∃ Z, Z = z58 s.port s.seq (defl s.flags) s.parts s.now := ⟨_, rfl⟩
          have HZ := hide hZ
          have hK5 : K0 ≤ wy.heap.size := Nat.le_trans (unhide HK0).1 (unhide FR5).below.size
          have lM5 : M < wy.heap.size := lt_of_heap (unhide R5).root
          have lB5 : w.heap.size < wy.heap.size := lt_of_heap (unhide BB5)
          have hsm := (unhide OK2).1.small (by have := (unhide HK0).2; omega)
          rw [List.length_map] at hsm
          have hsm2 : sumA (xs2.map Prod.snd) ≤ 1099511627776 ∧ 0 ≤ sumA (xs2.map Prod.snd) := hsm.2
          clear hZ z4
          go_upto_region 11 with fail
          go_cut [] from 95 to 114 (fun w' => Hid (∃ (wa : World) (g cap : Nat), (wa.os = wy.os ∧ wa.tape = wy.tape ∧ wa.output = wy.output ∧ wy.heap.size ≤ wa.heap.size) ∧ (∀ k, k < wy.heap.size → some k ≠ (Value.slice o2 xs2.length c2).ownBlock → wa.heap[k]? = wy.heap[k]?) ∧ wa.ownsRow K0 59 1 (.slice (some ⟨g, 0, none⟩) (xs2.length + 1) cap) (xs2.length + 1) (xs2.map ptrM ++ [.pointer (some ⟨wy.heap.size, 0, none⟩)]) ∧ wa.heap[wy.heap.size]? = some (.cells Z 58 (0, 0)) ∧ w' = wa.setCell ⟨M, 3, none⟩ (.slice (some ⟨g, 0, none⟩) (xs2.length + 1) cap)))
          case rest =>
            rename World => w11
            obtain ⟨wa, g, cap, a1, a2, hown, zA, hw11⟩ := unhide hcut
            have hownO := ownM (unhide R5).own
            have nM : some M ≠ (Value.slice o2 xs2.length c2).ownBlock := fun e => by
              obtain ⟨-, cs, e1⟩ := hownO M e.symm
              exact tag_ne (unhide R5).root e1 (by decide) rfl
            have bMa := (a2 M lM5 nM).trans (unhide R5).root
            have b11 : w11.heap[M]? = some (.cells (mrow mx lt lim (.slice (some ⟨g, 0, none⟩) (xs2.length + 1) cap) (sumA (xs2.map Prod.snd))) 48 (0, 0)) := by rw [hw11]; exact heap_setCell_row bMa 3 _
            have c4 : w11.cell? ⟨M, 4, none⟩ = some (.int .i64 (sumA (xs2.map Prod.snd))) := cell_of b11 4
            have f4 : w11.frozen? ⟨M, 4, none⟩ = false := froz_of b11 4
            have ws : IntKind.i64.wrap (sumA (xs2.map Prod.snd) + 256) = sumA (xs2.map Prod.snd) + 256 := by rw [IntKind.wrap_i64]; omega
            have ch11 : Ch [M] wa w11 := by rw [hw11]; exact (Ch.refl _ wa).setCell _ _ (Or.inl (by simp))
            have HP11 := hide (And.intro a1 (And.intro a2 (And.intro hown (And.intro zA ch11))))
            have B11 := hide b11
            clear hcut a1 a2 hown zA hw11 hownO nM bMa b11 ch11
            go_upto_region 13 with fail
            obtain ⟨W12, hW12⟩ : ∃ W, W = w11.setCell ⟨M, 4, none⟩ (.int .i64 (sumA (xs2.map Prod.snd) + 256)) := ⟨_, rfl⟩
            rw [← hW12]
            have b12 : W12.heap[M]? = some (.cells (mrow mx lt lim (.slice (some ⟨g, 0, none⟩) (xs2.length + 1) cap) (sumA (xs2.map Prod.snd) + 256)) 48 (0, 0)) := by rw [hW12]; exact heap_setCell_row (unhide B11) 4 _
            have ch12 : Ch [M] wa W12 := by rw [hW12]; exact (unhide HP11).2.2.2.2.setCell _ _ (Or.inl (by simp))
            have c3 : W12.cell? ⟨M, 3, none⟩ = some (.slice (some ⟨g, 0, none⟩) (xs2.length + 1) cap) := cell_of b12 3
            have wl : IntKind.i64.wrap (xs2.length : Int) = (xs2.length : Int) := by rw [IntKind.wrap_i64]; omega
            have wl2 : IntKind.i64.wrap ((xs2.length : Int) + 1 - 1) = (xs2.length : Int) := by rw [IntKind.wrap_i64]; omega
            have B12 := hide b12
            have CH12 := hide ch12
            clear hW12 b12 ch12 c4 f4 ws
            go_wp2_with fail
            go_meet
            case rel =>
              obtain ⟨q1, q2, q3, q4, -⟩ := unhide HP11
              have hmc : MC W12 (newA s) Z := by rw [unhide HZ]; exact z58_MC W12 s
              obtain ⟨rep, frm⟩ := app_rep (an := newA s) (unhide R5) hK5 (Nat.le_refl _) q1 q2 q3 q4 hmc rfl (unhide CH12) (unhide B12)
              refine ⟨_, xs2 ++ [(wy.heap.size, newA s)], xs2.length, by simp, rfl, ?_, rep, ?_, ?_, (unhide FR5).trans frm, frm.cells (unhide BB5) (by decide)⟩
              · rw [restA, if_neg hp1]; simp
              · have q := newA_ok (unhide OK2).1 (unhide HS) (unhide HNF)
                simpa using q
              · simp [newA]
          case first =>
          refine reg11 (fun _ _ d _ _ h => by cases d <;> exact h) _ wy K0 M w.heap.size mx lt lim xs2 s oa dc o2 c2 (by rfl) (by rfl) (by rfl) (by rfl) (unhide R5) (unhide BB5) hK5 hsm.1 ?_
          intro w10 g cap q1 q2 q3 q4
          rw [← unhide HZ] at q4 ⊢
          have POST := hide (And.intro q1 (And.intro q2 (And.intro q3 q4)))
          clear q1 q2 q3 q4
          simp only [Act.put, List.setIfInBounds_toArray, List.set_cons_zero, List.set_cons_succ]
          go_wp2_with fail
          go_meet
          case rel =>
            obtain ⟨q1, q2, q3, q4⟩ := unhide POST
            exact ⟨w10, g, cap, q1, q2, q3, q4, rfl⟩
        case rest =>
          rename World => w6
          obtain ⟨mv3, xs3, i, hi, rfl, erest, r6, ok6, hparts, fr6, bb6⟩ := unhide hcut
          have STE2 : Hid (ans = putA mx lim (xs3.map Prod.snd) i s) := (unhide STE).trans erest
          clear erest hcut STE OK2 R5 FR5 BB5
          rename ∀ (a : Act) (w1 : World), Code.wp Tryf.prog _ _ a w1 → _ => hKK
          refine hKK _ _ ?_
          clear hKK
          exact mtail2 w w6 K0 M mx lt lim mv3 xs3 i s oa dc B hi (unhide HK0).1 (unhide HK0).2 (unhide HS) (unhide HV) r6 ok6 hparts fr6 bb6 _ _ _ _ _ _ _ _ _ _ _ _ _ _ _ _ _ _ _ _ _ _ _ _ _ _ _ _ _ _ _ _ _ _ _ _ _ _ _ _ _ _ _ _ _ _ _ _ _ _ _ _ _ _ _ _ _ _ _ _ _ _ _ _ _ _ _ _ _ _ _ _ _ _ _ _ _ _ _ _ _ _ _ _ _ _ _ _ _ _ _ _ _ _ _ _ _ _ _ _ _ _ _ _ _ _ _ _ _ _ _ _ _ _ _ _ _ _ _ _ _ _ _ _ _ _ _ _ _ _ _ _ _ _ _ _ _ _ _ _ _ _ _ _ _ _ _ _ _ _ _ _ _ _ _ _ _ _ _ _ _ _ _ _ _ _ _ _ _ _ _ _ _ _ _ _ _ _ _ _ _ _ _ _ _ _ _ _ _ _ _ _ _ _ _ _ _ _ _ _ _ _ _ _ _ _ _ _ _ _ _ _ _ _ _ _ _ _ _ _ _ _ _ _ _ _ _ _ _ _ _ _ _ _ _ _ _ _ _ _ _ _ _ _ _ _ _ _ _ _ (ans) (unhide STE2).symm _ rfl
theorem mfive2 (w w5 : World) (K0 M : Nat) (mx lt lim : Int) (mv2 : Value) (xs2 : List MM) (oi : Option Nat) (s : Stp) (oa : Option Addr) (dc : Nat) (B : Int) (hK0 : K0 ≤ w.heap.size) (hB : B ≤ 8388608) (hs : okP s) (hv : BI w K0 (.slice oa s.data.length dc) s.data) (r5 : RepM w5 K0 M mx lt lim mv2 xs2) (ok2 : okA (xs2.map Prod.snd) B ∧ (∀ i, oi = some i → ∃ a, (xs2.map Prod.snd)[i]? = some a ∧ a.parts = s.parts ∧ defl a.flags = defl s.flags) ∧ (oi = none → findA s.port s.seq (xs2.map Prod.snd) 0 = none)) (fr5 : FrM K0 w w5) (bb5 : w5.heap[w.heap.size]? = some (.cells (box37 s oa dc) 37 (0, 0))) (ans : Ans × List Abs) (hans : ans = restA mx lim (xs2.map Prod.snd, oi) s) (u9 u10 u11 u12 u13 u14 u15 u16 u17 u18 u19 u20 u21 u22 u23 u24 u25 u26 u27 u28 u29 u30 u31 u32 u33 u34 u35 u36 u37 u38 u39 u40 u41 u42 u43 u44 u45 u46 u47 u48 u49 u50 u51 u52 u53 u54 u55 u56 u57 u58 u59 u60 u61 u62 u63 u64 u65 u66 u67 u68 u69 u70 u71 u72 u73 u74 u75 u76 u77 u78 u79 u80 u81 u82 u83 u84 u85 u86 u87 u88 u89 u90 u91 u92 u93 u94 u95 u96 u97 u98 u99 u100 u101 u102 u103 u104 u105 u106 u107 u108 u109 u110 u111 u112 u113 u114 u115 u116 u117 u118 u119 u120 u121 u122 u123 u124 u125 u126 u127 u128 u129 u130 u131 u132 u133 u134 u135 u136 u137 u138 u139 u140 u141 u142 u143 u144 u145 u146 u147 u148 u149 u150 u151 u152 u153 u154 u155 u156 u157 u158 u159 u160 u161 u162 u163 u164 u165 u166 u167 u168 u169 u170 u171 u172 u173 u174 u175 u176 u177 u178 u179 u180 u181 u182 u183 u184 u185 u186 u187 u188 u189 u190 u191 u192 u193 u194 u195 u196 u197 u198 u199 u200 u201 u202 u203 u204 u205 u206 u207 u208 u209 u210 u211 u212 u213 u214 u215 u216 u217 u218 u219 u220 u221 u222 u223 u224 u225 u226 u227 u228 u229 u230 u231 u232 u233 u234 u235 u236 u237 u238 u239 u240 u241 u242 u243 u244 u245 u246 u247 u248 u249 u250 u251 u252 u253 u254 u255 u256 u257 u258 : Value) (c : Code) (hc : five12 = c) :
    Code.wp Tryf.prog c (bodyPost Tryf.prog Tryf.f12 (MStep w K0 M mx lt lim ans)) ⟨#[.pointer (some ⟨M, 0, none⟩), .agg (box37 s oa dc), undef, .pointer (some ⟨w.heap.size, 0, none⟩), .slice none 0 0, .bool false, .bool false, .bool (defl s.flags), .int .i64 (oiI oi), u9, u10, u11, u12, u13, u14, u15, u16, u17, u18, u19, u20, u21, u22, u23, u24, u25, u26, u27, u28, u29, u30, u31, u32, u33, u34, u35, u36, u37, u38, u39, u40, u41, u42, u43, u44, u45, u46, u47, u48, u49, u50, u51, u52, u53, u54, u55, u56, u57, u58, u59, u60, u61, u62, u63, u64, u65, u66, u67, u68, u69, u70, u71, u72, u73, u74, u75, u76, u77, u78, u79, u80, u81, u82, u83, u84, u85, u86, u87, u88, u89, u90, u91, u92, u93, u94, u95, u96, u97, u98, u99, u100, u101, u102, u103, u104, u105, u106, u107, u108, u109, u110, u111, u112, u113, u114, u115, u116, u117, u118, u119, u120, u121, u122, u123, u124, u125, u126, u127, u128, u129, u130, u131, u132, u133, u134, u135, u136, u137, u138, u139, u140, u141, u142, u143, u144, u145, u146, u147, u148, u149, u150, u151, u152, u153, u154, u155, u156, u157, u158, u159, u160, u161, u162, u163, u164, u165, u166, u167, u168, u169, u170, u171, u172, u173, u174, u175, u176, u177, u178, u179, u180, u181, u182, u183, u184, u185, u186, u187, u188, u189, u190, u191, u192, u193, u194, u195, u196, u197, u198, u199, u200, u201, u202, u203, u204, u205, u206, u207, u208, u209, u210, u211, u212, u213, u214, u215, u216, u217, u218, u219, u220, u221, u222, u223, u224, u225, u226, u227, u228, u229, u230, u231, u232, u233, u234, u235, u236, u237, u238, u239, u240, u241, u242, u243, u244, u245, u246, u247, u248, u249, u250, u251, u252, u253, u254, u255, u256, u257, u258], []⟩ w5 := by
  subst hc
  exact mfive w w5 K0 M mx lt lim mv2 xs2 oi s oa dc B hK0 hB hs hv r5 ok2 fr5 bb5 ans hans u9 u10 u11 u12 u13 u14 u15 u16 u17 u18 u19 u20 u21 u22 u23 u24 u25 u26 u27 u28 u29 u30 u31 u32 u33 u34 u35 u36 u37 u38 u39 u40 u41 u42 u43 u44 u45 u46 u47 u48 u49 u50 u51 u52 u53 u54 u55 u56 u57 u58 u59 u60 u61 u62 u63 u64 u65 u66 u67 u68 u69 u70 u71 u72 u73 u74 u75 u76 u77 u78 u79 u80 u81 u82 u83 u84 u85 u86 u87 u88 u89 u90 u91 u92 u93 u94 u95 u96 u97 u98 u99 u100 u101 u102 u103 u104 u105 u106 u107 u108 u109 u110 u111 u112 u113 u114 u115 u116 u117 u118 u119 u120 u121 u122 u123 u124 u125 u126 u127 u128 u129 u130 u131 u132 u133 u134 u135 u136 u137 u138 u139 u140 u141 u142 u143 u144 u145 u146 u147 u148 u149 u150 u151 u152 u153 u154 u155 u156 u157 u158 u159 u160 u161 u162 u163 u164 u165 u166 u167 u168 u169 u170 u171 u172 u173 u174 u175 u176 u177 u178 u179 u180 u181 u182 u183 u184 u185 u186 u187 u188 u189 u190 u191 u192 u193 u194 u195 u196 u197 u198 u199 u200 u201 u202 u203 u204 u205 u206 u207 u208 u209 u210 u211 u212 u213 u214 u215 u216 u217 u218 u219 u220 u221 u222 u223 u224 u225 u226 u227 u228 u229 u230 u231 u232 u233 u234 u235 u236 u237 u238 u239 u240 u241 u242 u243 u244 u245 u246 u247 u248 u249 u250 u251 u252 u253 u254 u255 u256 u257 u258
end Go.Proofs.Qxb6612998aFmt
