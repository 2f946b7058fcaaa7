import Derived.Test.Qxb6612998aFmtZz
import Derived.Test.Qxb6612998aFmtRg
namespace Go.Proofs.Qxb6612998aFmt
open Go.RowKit Go.Sort

/-- What the model's step leaves. -/
def MStep (w : World) (K0 M : Nat) (mx lt lim : Int) (ans : Ans × List Abs) (e : Ending) (w' : World) : Prop := ∃ v mv' xs', e = .returned (.tuple #[v, .bool ans.1.2.1, .bool ans.1.2.2]) ∧ BX w' K0 v ans.1.1 ∧ RepM w' K0 M mx lt lim mv' xs' ∧ xs'.map Prod.snd = ans.2 ∧ FrM K0 w w'
theorem okA.small {aa : List Abs} {B : Int} (h : okA aa B) (hB : B ≤ 8388608 + 256) : aa.length ≤ 1099511627776 ∧ sumA aa ≤ 1099511627776 ∧ 0 ≤ sumA aa := by
  have h1 := h.sum
  have h2 := sumA_len aa
  omega
theorem FrM.of_remove {K0 M : Nat} {mx lt lim : Int} {mv : Value} {xs : List MM} {a b : World} (h : RepM a K0 M mx lt lim mv xs) (hc : Ch [M] a b) (hk : K0 ≤ a.heap.size) : FrM K0 a b := FrM.of_ch hc hk (fun x hx => by
  obtain rfl : x = M := by simpa using hx
  exact ⟨h.base, _, _, h.root, Or.inl rfl⟩)
theorem FrM.cells {K0 : Nat} {a b : World} (h : FrM K0 a b) {k : Nat} {cs : Array Value} {t : TypeId} (e : a.heap[k]? = some (.cells cs t (0, 0))) (ht : t ≠ 48 ∧ t ≠ 58 ∧ t ≠ 59) : b.heap[k]? = some (.cells cs t (0, 0)) := h.keep _ _ e (fun cs' t' e' => by
  injection e' with _ e2
  subst e2
  exact ht)

theorem enters22 : ∀ args w, (callFunc 22 args).run Tryf.prog w = .ok (.enter 22 args) w := enters_of Tryf.func22 (by kernel_rfl) rfl
theorem nq59_same (w : World) (a : Addr) : (binOp .neq 59 (.pointer (some a)) (.pointer (some a))).run Tryf.prog w = .ok (.bool false) w := nq_same w a Tryf.underlying59 (j := Tryf.t58) (by kernel_rfl)
theorem nq59_other (w : World) {a b : Addr} {ca cb : Array Value} {ta tb : TypeId} (hne : a ≠ b) (ha : w.heap[a.block]? = some (.cells ca ta (0, 0))) (hb : w.heap[b.block]? = some (.cells cb tb (0, 0))) : (binOp .neq 59 (.pointer (some a)) (.pointer (some b))).run Tryf.prog w = .ok (.bool true) w := nq_other w Tryf.underlying59 (j := Tryf.t58) (by kernel_rfl) (by decide) hne ha hb
def oiI : Option Nat → Int
  | some i => (i : Int)
  | none => -1


def s2 : Code → Code
  | .seq _ b => b
  | c => c
noncomputable def tail12 : Code := match Tryf.f12.body with
  | some c => s2 (s2 (s2 (s2 (s2 (s2 (s2 c))))))
  | none => .skip
set_option maxHeartbeats 8000000 in
set_option maxRecDepth 20000 in
theorem mtail (w w6 : World) (K0 M : Nat) (mx lt lim : Int) (mv3 : Value) (xs3 : List MM) (i : Nat) (s : Stp) (oa : Option Addr) (dc : Nat) (B : Int) (hi : i < xs3.length) (hK0 : K0 ≤ w.heap.size) (hB : B ≤ 8388608) (hs : okP s) (hv : BI w K0 (.slice oa s.data.length dc) s.data)
    (r6 : RepM w6 K0 M mx lt lim mv3 xs3) (ok6 : okA (xs3.map Prod.snd) (B + 256)) (hparts : (xs3[i]).2.parts = s.parts) (fr6 : FrM K0 w w6) (bb6 : w6.heap[w.heap.size]? = some (.cells (box37 s oa dc) 37 (0, 0))) (u9 u10 u11 u12 u13 u14 u15 u16 u17 u18 u19 u20 u21 u22 u23 u24 u25 u26 u27 u28 u29 u30 u31 u32 u33 u34 u35 u36 u37 u38 u39 u40 u41 u42 u43 u44 u45 u46 u47 u48 u49 u50 u51 u52 u53 u54 u55 u56 u57 u58 u59 u60 u61 u62 u63 u64 u65 u66 u67 u68 u69 u70 u71 u72 u73 u74 u75 u76 u77 u78 u79 u80 u81 u82 u83 u84 u85 u86 u87 u88 u89 u90 u91 u92 u93 u94 u95 u96 u97 u98 u99 u100 u101 u102 u103 u104 u105 u106 u107 u108 u109 u110 u111 u112 u113 u114 u115 u116 u117 u118 u119 u120 u121 u122 u123 u124 u125 u126 u127 u128 u129 u130 u131 u132 u133 u134 u135 u136 u137 u138 u139 u140 u141 u142 u143 u144 u145 u146 u147 u148 u149 u150 u151 u152 u153 u154 u155 u156 u157 u158 u159 u160 u161 u162 u163 u164 u165 u166 u167 u168 u169 u170 u171 u172 u173 u174 u175 u176 u177 u178 u179 u180 u181 u182 u183 u184 u185 u186 u187 u188 u189 u190 u191 u192 u193 u194 u195 u196 u197 u198 u199 u200 u201 u202 u203 u204 u205 u206 u207 u208 u209 u210 u211 u212 u213 u214 u215 u216 u217 u218 u219 u220 u221 u222 u223 u224 u225 u226 u227 u228 u229 u230 u231 u232 u233 u234 u235 u236 u237 u238 u239 u240 u241 u242 u243 u244 u245 u246 u247 u248 u249 u250 u251 u252 u253 u254 u255 u256 u257 u258 : Value) :
    Code.wp Tryf.prog tail12 (bodyPost Tryf.prog Tryf.f12 (MStep w K0 M mx lt lim (putA mx lim (xs3.map Prod.snd) i s))) ⟨#[.pointer (some ⟨M, 0, none⟩), .agg (box37 s oa dc), undef, .pointer (some ⟨w.heap.size, 0, none⟩), .slice none 0 0, .bool false, .bool false, .bool (defl s.flags), .int .i64 (i : Int), u9, u10, u11, u12, u13, u14, u15, u16, u17, u18, u19, u20, u21, u22, u23, u24, u25, u26, u27, u28, u29, u30, u31, u32, u33, u34, u35, u36, u37, u38, u39, u40, u41, u42, u43, u44, u45, u46, u47, u48, u49, u50, u51, u52, u53, u54, u55, u56, u57, u58, u59, u60, u61, u62, u63, u64, u65, u66, u67, u68, u69, u70, u71, u72, u73, u74, u75, u76, u77, u78, u79, u80, u81, u82, u83, u84, u85, u86, u87, u88, u89, u90, u91, u92, u93, u94, u95, u96, u97, u98, u99, u100, u101, u102, u103, u104, u105, u106, u107, u108, u109, u110, u111, u112, u113, u114, u115, u116, u117, u118, u119, u120, u121, u122, u123, u124, u125, u126, u127, u128, u129, u130, u131, u132, u133, u134, u135, u136, u137, u138, u139, u140, u141, u142, u143, u144, u145, u146, u147, u148, u149, u150, u151, u152, u153, u154, u155, u156, u157, u158, u159, u160, u161, u162, u163, u164, u165, u166, u167, u168, u169, u170, u171, u172, u173, u174, u175, u176, u177, u178, u179, u180, u181, u182, u183, u184, u185, u186, u187, u188, u189, u190, u191, u192, u193, u194, u195, u196, u197, u198, u199, u200, u201, u202, u203, u204, u205, u206, u207, u208, u209, u210, u211, u212, u213, u214, u215, u216, u217, u218, u219, u220, u221, u222, u223, u224, u225, u226, u227, u228, u229, u230, u231, u232, u233, u234, u235, u236, u237, u238, u239, u240, u241, u242, u243, u244, u245, u246, u247, u248, u249, u250, u251, u252, u253, u254, u255, u256, u257, u258], []⟩ w6 := by
  generalize hQ : bodyPost Tryf.prog Tryf.f12 (MStep w K0 M mx lt lim (putA mx lim (xs3.map Prod.snd) i s)) = QQ
  unfold tail12
  simp only [Tryf.f12, s2]
  rw [← hQ]
  clear hQ
  unfold box37
  have HS := hide hs
  have HV := hide hv
  have HK0 := hide (And.intro hK0 hB)
  clear hs hv hK0 hB
  obtain ⟨n, hn⟩ : ∃ n : Nat, s.part = (n : Int) := ⟨s.part.toNat, by have := (unhide HS).part; omega⟩
  have hn1 : n < 256 := by have h1 := (unhide HS).part; have h2 := (unhide HS).parts; omega
  obtain ⟨x, hx⟩ : ∃ x, x = xs3[i] := ⟨_, rfl⟩
  have hget : (xs3.map Prod.snd)[i]? = some x.2 := by simp [hi, hx]
  obtain ⟨g, cap, rfl, -, -, hrow⟩ := r6.row (by intro e; rw [e] at hi; simp at hi)
  obtain ⟨cs, hcs, hmc⟩ := (r6.each _ (List.getElem_mem hi)).2
  rw [← hx] at hcs hmc hparts
  have hxi := hrow i hi
  rw [← hx] at hxi
  unfold ptrM at hxi
  have c3 : w6.cell? ⟨M, 3, none⟩ = some (.slice (some ⟨g, 0, none⟩) xs3.length cap) := cell_of r6.root 3
  have b1 : (0 : Int) ≤ (i : Int) := by omega
  have b2 : (i : Int) < (xs3.length : Int) := by omega
  have q3 : ∀ q, (w6.drewN q).cell? ⟨w.heap.size, 3, none⟩ = some (.int .i64 (n : Int)) := fun _ => by rw [← hn]; exact cell_of bb6 3
  have qc : ∀ q, (w6.drewN q).cell? ⟨x.1, 4 + n, none⟩ = some (.bool (come n x.2.got)) := fun _ => (cell_of hcs (4 + n)).trans (hmc.come n hn1)
  have b3 : (0 : Int) ≤ (n : Int) := by omega
  have b4 : (n : Int) < 256 := by omega
  have ok6' := ok6
  have hom : okM x.2 := ok6.each x.2 (by rw [hx]; exact List.mem_map.2 ⟨_, List.getElem_mem hi, rfl⟩)
  have hsm := ok6.small (by have := (unhide HK0).2; omega)
  rw [List.length_map] at hsm
  have hcost : costS x.2.got ≤ sumA (xs3.map Prod.snd) := sumA_mem _ _ (by rw [hx]; exact List.mem_map.2 ⟨_, List.getElem_mem hi, rfl⟩)
  have hll := lenS_le x.2.got
  have hgl : x.2.got.length ≤ 255 := by have h2 := hom.less; have h3 := hom.parts.2; omega
  have R6 := hide r6
  have OK6 := hide ok6
  have HPA := hide hparts
  have FR6 := hide fr6
  have BB6 := hide bb6
  have HGET := hide hget
  have HN := hide hn
  have HX := hide hx
  have HCS := hide hcs
  have HMC := hide hmc
  have HOM := hide hom
  have HB := hide (And.intro hsm (And.intro hcost (And.intro hll hgl)))
  clear r6 ok6 ok6' hparts fr6 bb6 hget hn hx hcs hmc hom hrow hsm hcost hll hgl
  go_upto_region 15 with fail
  cases hcm : come n x.2.got with
  | true => -- DONE
    have eput : putA mx lim (xs3.map Prod.snd) i s = (([], false, false), xs3.map Prod.snd) := by
      unfold putA
      rw [unhide HGET]
      simp only [unhide HN, hcm, if_true]
    have EPUT := hide eput
    rw [hcm] at qc
    clear eput hcm
    go_quiet (fail)
    go_wp2_with fail
    refine bodyPost_ret (v := .tuple #[.slice none 0 0, .bool false, .bool false]) (by simp [results, Tryf.results12, go_sem]) rfl ?_
    rw [unhide EPUT]
    have hb := Gr.below ((Gr.refl w6).drewN nq)
    exact ⟨_, _, xs3, rfl, Or.inr (Or.inl ⟨none, 0, rfl, rfl⟩), (unhide R6).below hb, rfl, (unhide FR6).trans (FrM.of_below hb (Nat.le_trans (unhide HK0).1 (unhide FR6).below.size))⟩
  | false =>
    rw [hcm] at qc
    have HCM := hide hcm
    clear hcm
    go_quiet (fail)
    go_upto_region 17 with fail
    obtain ⟨w7, hw7⟩ : ∃ W, W = w6.drewN nq := ⟨_, rfl⟩
    rw [← hw7]
    have R7 : Hid (RepM w7 K0 M mx lt lim (.slice (some ⟨g, 0, none⟩) xs3.length cap) xs3) := by rw [hw7]; exact (unhide R6).below (Gr.below ((Gr.refl w6).drewN nq))
    have FR7 : Hid (FrM K0 w w7) := by rw [hw7]; exact (unhide FR6).trans (FrM.of_below (Gr.below ((Gr.refl w6).drewN nq)) (Nat.le_trans (unhide HK0).1 (unhide FR6).below.size))
    have BB7 : Hid (w7.heap[w.heap.size]? = some (.cells (box37 s oa dc) 37 (0, 0))) := by rw [hw7]; exact BB6
    have CS7 : Hid (w7.heap[x.1]? = some (.cells cs 58 (0, 0))) := by rw [hw7]; exact HCS
    have MC7 : Hid (MC w7 x.2 cs) := by rw [hw7]; exact (unhide HMC).keep (fun _ _ _ => rfl)
    have p0 : ∀ q, (w7.drewN q).cell? ⟨x.1, 517, none⟩ = some (.int .i64 (lenS x.2.got)) := fun _ => (cell_of (unhide CS7) 517).trans (unhide MC7).len
    have p1 : ∀ q, (w7.drewN q).cell? ⟨w.heap.size, 5, none⟩ = some (.slice oa s.data.length dc) := fun _ => cell_of (unhide BB7) 5
    have p2 : ∀ q, (w7.drewN q).cell? ⟨M, 0, none⟩ = some (.int .i64 mx) := fun _ => cell_of (unhide R7).root 0
    have hdl := (unhide HS).data
    have hhb := unhide HB
    have e1 : IntKind.i64.wrap (lenS x.2.got + (s.data.length : Int)) = lenS x.2.got + (s.data.length : Int) := by rw [IntKind.wrap_i64]; omega
    clear hw7 R6 FR6 BB6 HCS HMC q3 qc c3 hxi hdl hhb
    by_cases cl : mx < lenS x.2.got + (s.data.length : Int)
    · -- DONE
      have eput : putA mx lim (xs3.map Prod.snd) i s = (([], false, true), (xs3.eraseIdx i).map Prod.snd) := by
        unfold putA
        rw [unhide HGET]
        show (if come s.part x.2.got = true then _ else if mx < lenS x.2.got + s.data.length then _ else _) = _
        rw [unhide HN, unhide HCM, if_neg (by simp), if_pos cl, mapE]
      have EPUT := hide eput
      have hWK := Nat.le_trans (unhide HK0).1 (unhide FR7).below.size
      have K16 : Hid (∀ q, Calls Tryf.prog 16 #[.pointer (some ⟨M, 0, none⟩), .int .i64 (i : Int)] (w7.drewN q) fun e w' => e = .returned (.tuple #[]) ∧ ∃ mv', RepM w' K0 M mx lt lim mv' (xs3.eraseIdx i) ∧ Ch [M] (w7.drewN q) w') := fun q => remove_any ((unhide R7).below (Gr.below ((Gr.refl w7).drewN q))) i hi (unhide HB).1.1 (unhide HB).1.2.1 hWK
      have HWK := hide hWK
      clear eput hWK
      go_quiet (fail)
      go_wp2_with (go_at_call 16; refine Calls.mono (unhide K16 _) ?_; rintro e w9 ⟨rfl, h9⟩; have H9 := hide h9; clear h9)
      refine bodyPost_ret (v := .tuple #[.slice none 0 0, .bool false, .bool true]) (by simp [results, Tryf.results12, go_sem]) rfl ?_
      rw [unhide EPUT]
      obtain ⟨mv9, r9, c9⟩ := unhide H9
      have hb := Gr.below ((Gr.refl w7).drewN nq)
      have hF := (unhide FR7).trans ((FrM.of_below hb (unhide HWK)).trans (FrM.of_remove ((unhide R7).below hb) c9 (Nat.le_trans (unhide HWK) hb.size)))
      exact ⟨_, mv9, xs3.eraseIdx i, rfl, Or.inr (Or.inl ⟨none, 0, rfl, rfl⟩), r9, rfl, hF⟩
    · go_quiet (fail)
      go_upto_region 20 with fail
      obtain ⟨W8, hW8⟩ : ∃ W, W = w7.drewN nq := ⟨_, rfl⟩
      rw [← hW8]
      have R8 : Hid (RepM W8 K0 M mx lt lim (.slice (some ⟨g, 0, none⟩) xs3.length cap) xs3) := by rw [hW8]; exact (unhide R7).below (Gr.below ((Gr.refl w7).drewN nq))
      have FR8 : Hid (FrM K0 w W8) := by rw [hW8]; exact (unhide FR7).trans (FrM.of_below (Gr.below ((Gr.refl w7).drewN nq)) (Nat.le_trans (unhide HK0).1 (unhide FR7).below.size))
      have bb8 : W8.heap[w.heap.size]? = some (.cells (box37 s oa dc) 37 (0, 0)) := by rw [hW8]; exact unhide BB7
      have cs8 : W8.heap[x.1]? = some (.cells cs 58 (0, 0)) := by rw [hW8]; exact unhide CS7
      have MC8 : Hid (MC W8 x.2 cs) := by rw [hW8]; exact (unhide MC7).keep (fun _ _ _ => rfl)
      have hsz := (unhide MC8).size
      have dAM : x.1 ≠ M := tag_ne cs8 (unhide R8).root (by decide)
      have dAB : x.1 ≠ w.heap.size := tag_ne cs8 bb8 (by decide)
      have dMB : M ≠ w.heap.size := tag_ne (unhide R8).root bb8 (by decide)
      have g1 : W8.cell? ⟨x.1, 4 + n, none⟩ = some (.bool false) := by rw [← unhide HCM]; exact (cell_of cs8 (4 + n)).trans ((unhide MC8).come n hn1)
      have g2 : W8.frozen? ⟨x.1, 4 + n, none⟩ = false := froz_of cs8 _
      have g3 : W8.cell? ⟨w.heap.size, 3, none⟩ = some (.int .i64 (n : Int)) := by rw [← unhide HN]; exact cell_of bb8 3
      have CS8 := hide cs8
      have BB8 := hide bb8
      have HSZ := hide hsz
      clear hW8 R7 FR7 BB7 CS7 MC7 p0 p1 p2 cs8 bb8 hsz
      go_region
      go_upto_region 21 with fail
      obtain ⟨W9, hW9⟩ : ∃ W, W = (W8.setCell ⟨x.1, 4 + n, none⟩ (.bool true)).drew := ⟨_, rfl⟩
      rw [← hW9]
      have ch9 : Ch [x.1, M] W8 W9 := by rw [hW9]; exact ((Ch.refl _ W8).setCell _ _ (Or.inl (by simp))).drew
      have cs9 : W9.heap[x.1]? = some (.cells (cs.setIfInBounds (4 + n) (.bool true)) 58 (0, 0)) := by rw [hW9]; exact heap_setCell_row (unhide CS8) _ _
      have bb9 : W9.heap[w.heap.size]? = some (.cells (box37 s oa dc) 37 (0, 0)) := (ch9.block _ (lt_of_heap (unhide BB8)) (by simp; omega)).trans (unhide BB8)
      have bl9 : Below K0 w W9 := (unhide FR8).below.trans (ch9.toBelow (Nat.le_trans (unhide HK0).1 (unhide FR8).below.size) (fun k hk => by
        rcases List.mem_cons.1 hk with rfl | hk
        · rw [unhide HX]; exact ((unhide R8).each _ (List.getElem_mem hi)).1
        · obtain rfl : k = M := by simpa using hk
          exact (unhide R8).base))
      have hbs : BS W9.drew (.slice oa s.data.length dc) s.data := ((unhide HV).below bl9).bs.below (Gr.below (Gr.refl W9).drew)
      have K22 := hide (zzClone_any _ _ _ hbs (unhide HS).data)
      obtain ⟨u0, hu0, -⟩ := (unhide MC8).data n hn1
      have h1 : W9.cell? ⟨x.1, 260 + n, none⟩ = some u0 := (cell_of cs9 _).trans ((set_ne (by omega)).trans hu0)
      have h2 : W9.frozen? ⟨x.1, 260 + n, none⟩ = false := froz_of cs9 _
      have h3 : W9.cell? ⟨w.heap.size, 3, none⟩ = some (.int .i64 (n : Int)) := by rw [← unhide HN]; exact cell_of bb9 3
      have h5 : W9.cell? ⟨w.heap.size, 5, none⟩ = some (.slice oa s.data.length dc) := cell_of bb9 5
      have lA : x.1 < W9.heap.size := lt_of_heap cs9
      have lB : w.heap.size < W9.heap.size := lt_of_heap bb9
      have bM9 : W9.heap[M]? = some (.cells (mrow mx lt lim (.slice (some ⟨g, 0, none⟩) xs3.length cap) (sumA (xs3.map Prod.snd))) 48 (0, 0)) := by rw [hW9]; exact (Below.heap_setCell _ _ _ _ (by show M ≠ x.1; omega)).trans (unhide R8).root
      have BM9 := hide bM9
      clear bM9
      have CH9 := hide ch9
      have CS9 := hide cs9
      have BB9 := hide bb9
      clear hW9 g1 g2 g3 ch9 cs9 bb9 bl9 hbs hu0
      go_cut [] from 164 to 172 (fun w' => Hid (∃ (wc : World) (v8 : Value), Below W9.heap.size W9 wc ∧ BO wc v8 s.data ∧ w' = wc.setCell ⟨x.1, 260 + n, none⟩ v8))
      case first => -- DONE
        go_region_law
          (first
            | (refine step_call1 (by rfl) (.tmp 168) 22 _ (by rfl) (.slice oa s.data.length dc) (by rfl) enters22 (unhide K22) ?_; rintro v8 w8 ⟨bo, hb8⟩; obtain ⟨o8, n8, d8, rfl⟩ := bo.shape
               have k1 : w8.cell? ⟨x.1, 260 + n, none⟩ = some u0 := (hb8.cell (p := ⟨x.1, 260 + n, none⟩) lA).trans h1
               have k2 : w8.frozen? ⟨x.1, 260 + n, none⟩ = false := (hb8.frozen (p := ⟨x.1, 260 + n, none⟩) lA).trans h2
               have k3 : w8.cell? ⟨w.heap.size, 3, none⟩ = some (.int .i64 (n : Int)) := (hb8.cell (p := ⟨w.heap.size, 3, none⟩) lB).trans h3
               have HB8 := hide hb8
               have BO8 := hide bo
               clear bo hb8))
        all_goals go_wp2_with fail
        all_goals go_meet
        all_goals exact ⟨w8, _, (Gr.below (Gr.refl W9).drew).trans (unhide HB8), unhide BO8, rfl⟩
      case rest =>
        rename World => w10
        obtain ⟨wc, v8, hbc, bo8, hw10⟩ := unhide hcut
        have ba := (hbc.block _ lA).trans (unhide CS9)
        have bMc := (hbc.block _ (lt_of_heap (unhide BM9))).trans (unhide BM9)
        have bBc := (hbc.block _ lB).trans (unhide BB9)
        have chA : Ch [x.1, M] W8 wc := (unhide CH9).trans (Ch.of_below (bs := []) hbc) (fun _ h => h) (by simp)
        have cs10 : w10.heap[x.1]? = some (.cells ((cs.setIfInBounds (4 + n) (.bool true)).setIfInBounds (260 + n) v8) 58 (0, 0)) := by rw [hw10]; exact heap_setCell_row ba _ _
        have chC : Ch [x.1, M] wc w10 := by rw [hw10]; exact (Ch.refl _ wc).setCell _ _ (Or.inl (by simp))
        have bM10 : w10.heap[M]? = some (.cells (mrow mx lt lim (.slice (some ⟨g, 0, none⟩) xs3.length cap) (sumA (xs3.map Prod.snd))) 48 (0, 0)) := by rw [hw10]; exact (Below.heap_setCell _ _ _ _ (by show M ≠ x.1; omega)).trans bMc
        have bB10 : w10.heap[w.heap.size]? = some (.cells (box37 s oa dc) 37 (0, 0)) := by rw [hw10]; exact (Below.heap_setCell _ _ _ _ (by show w.heap.size ≠ x.1; omega)).trans bBc
        have hhb := unhide HB
        have hdl := (unhide HS).data
        have g1 : w10.cell? ⟨x.1, 516, none⟩ = some (.int .i64 (x.2.got.length : Int)) := by rw [cell_of cs10 516, set_ne (by omega), set_ne (by omega)]; exact (unhide MC8).got
        have g2 : w10.frozen? ⟨x.1, 516, none⟩ = false := froz_of cs10 _
        have t0 : IntKind.i64.wrap ((x.2.got.length : Int) + 1) = (x.2.got.length : Int) + 1 := by rw [IntKind.wrap_i64]; omega
        have t1 : IntKind.i64.wrap (64 + (s.data.length : Int)) = 64 + (s.data.length : Int) := by rw [IntKind.wrap_i64]; omega
        have t2 : IntKind.i64.wrap (costS x.2.got + (64 + (s.data.length : Int))) = costS x.2.got + (64 + (s.data.length : Int)) := by
          have := costS_pos x.2.got
          rw [IntKind.wrap_i64]; omega
        have t3 : IntKind.i64.wrap (sumA (xs3.map Prod.snd) + (64 + (s.data.length : Int))) = sumA (xs3.map Prod.snd) + (64 + (s.data.length : Int)) := by rw [IntKind.wrap_i64]; omega
        have BAC := hide ba
        have BMC := hide bMc
        have CHA := hide chA
        have CHC := hide chC
        have CS10 := hide cs10
        have BM10 := hide bM10
        have BB10 := hide bB10
        have BO8 := hide bo8
        clear hcut hbc bo8 hw10 ba bMc bBc chA chC cs10 bM10 bB10 hhb hdl h1 h2 h3 h5 CH9 CS9 BB9 BM9 K22 lA lB
        go_upto_region 23 with fail
        obtain ⟨W11, hW11⟩ : ∃ W, W = w10.setCell ⟨x.1, 516, none⟩ (.int .i64 ((x.2.got.length : Int) + 1)) := ⟨_, rfl⟩
        rw [← hW11]
        have cs11 : W11.heap[x.1]? = some (.cells (((cs.setIfInBounds (4 + n) (.bool true)).setIfInBounds (260 + n) v8).setIfInBounds 516 (.int .i64 ((x.2.got.length : Int) + 1))) 58 (0, 0)) := by rw [hW11]; exact heap_setCell_row (unhide CS10) _ _
        have ch11 : Ch [x.1, M] wc W11 := by rw [hW11]; exact (unhide CHC).setCell _ _ (Or.inl (by simp))
        have bM11 : W11.heap[M]? = some (.cells (mrow mx lt lim (.slice (some ⟨g, 0, none⟩) xs3.length cap) (sumA (xs3.map Prod.snd))) 48 (0, 0)) := by rw [hW11]; exact (Below.heap_setCell _ _ _ _ (by show M ≠ x.1; omega)).trans (unhide BM10)
        have bB11 : W11.heap[w.heap.size]? = some (.cells (box37 s oa dc) 37 (0, 0)) := by rw [hW11]; exact (Below.heap_setCell _ _ _ _ (by show w.heap.size ≠ x.1; omega)).trans (unhide BB10)
        have g4 : W11.cell? ⟨x.1, 517, none⟩ = some (.int .i64 (lenS x.2.got)) := by rw [cell_of cs11 517, set_ne (by omega), set_ne (by omega), set_ne (by omega)]; exact (unhide MC8).len
        have g4f : W11.frozen? ⟨x.1, 517, none⟩ = false := froz_of cs11 _
        have g5 : W11.cell? ⟨w.heap.size, 5, none⟩ = some (.slice oa s.data.length dc) := cell_of bB11 5
        have CS11 := hide cs11
        have CH11 := hide ch11
        have BM11 := hide bM11
        have BB11 := hide bB11
        clear hW11 cs11 ch11 bM11 bB11 CS10 CHC BM10 BB10 g1 g2 t0
        go_region
        go_upto_region 24 with fail
        obtain ⟨W12, hW12⟩ : ∃ W, W = (W11.setCell ⟨x.1, 517, none⟩ (.int .i64 (lenS x.2.got + (s.data.length : Int)))).drew := ⟨_, rfl⟩
        rw [← hW12]
        have cs12 : W12.heap[x.1]? = some (.cells ((((cs.setIfInBounds (4 + n) (.bool true)).setIfInBounds (260 + n) v8).setIfInBounds 516 (.int .i64 ((x.2.got.length : Int) + 1))).setIfInBounds 517 (.int .i64 (lenS x.2.got + s.data.length))) 58 (0, 0)) := by rw [hW12]; exact heap_setCell_row (unhide CS11) _ _
        have ch12 : Ch [x.1, M] wc W12 := by rw [hW12]; exact ((unhide CH11).setCell _ _ (Or.inl (by simp))).drew
        have bM12 : W12.heap[M]? = some (.cells (mrow mx lt lim (.slice (some ⟨g, 0, none⟩) xs3.length cap) (sumA (xs3.map Prod.snd))) 48 (0, 0)) := by rw [hW12]; exact (Below.heap_setCell _ _ _ _ (by show M ≠ x.1; omega)).trans (unhide BM11)
        have bB12 : W12.heap[w.heap.size]? = some (.cells (box37 s oa dc) 37 (0, 0)) := by rw [hW12]; exact (Below.heap_setCell _ _ _ _ (by show w.heap.size ≠ x.1; omega)).trans (unhide BB11)
        have g6 : W12.cell? ⟨x.1, 518, none⟩ = some (.int .i64 (costS x.2.got)) := by rw [cell_of cs12 518, set_ne (by omega), set_ne (by omega), set_ne (by omega), set_ne (by omega)]; exact (unhide MC8).cost
        have g6f : W12.frozen? ⟨x.1, 518, none⟩ = false := froz_of cs12 _
        have g7 : W12.cell? ⟨w.heap.size, 5, none⟩ = some (.slice oa s.data.length dc) := cell_of bB12 5
        have CS12 := hide cs12
        have CH12 := hide ch12
        have BM12 := hide bM12
        have BB12 := hide bB12
        clear hW12 cs12 ch12 bM12 bB12 CS11 CH11 BM11 BB11 g4 g4f g5 e1
        go_region
        go_upto_region 25 with fail
        obtain ⟨W13, hW13⟩ : ∃ W, W = (W12.setCell ⟨x.1, 518, none⟩ (.int .i64 (costS x.2.got + (64 + (s.data.length : Int))))).drew := ⟨_, rfl⟩
        rw [← hW13]
        have cs13 : W13.heap[x.1]? = some (.cells (((((cs.setIfInBounds (4 + n) (.bool true)).setIfInBounds (260 + n) v8).setIfInBounds 516 (.int .i64 ((x.2.got.length : Int) + 1))).setIfInBounds 517 (.int .i64 (lenS x.2.got + s.data.length))).setIfInBounds 518 (.int .i64 (costS x.2.got + (64 + s.data.length)))) 58 (0, 0)) := by rw [hW13]; exact heap_setCell_row (unhide CS12) _ _
        have ch13 : Ch [x.1, M] wc W13 := by rw [hW13]; exact ((unhide CH12).setCell _ _ (Or.inl (by simp))).drew
        have bM13 : W13.heap[M]? = some (.cells (mrow mx lt lim (.slice (some ⟨g, 0, none⟩) xs3.length cap) (sumA (xs3.map Prod.snd))) 48 (0, 0)) := by rw [hW13]; exact (Below.heap_setCell _ _ _ _ (by show M ≠ x.1; omega)).trans (unhide BM12)
        have bB13 : W13.heap[w.heap.size]? = some (.cells (box37 s oa dc) 37 (0, 0)) := by rw [hW13]; exact (Below.heap_setCell _ _ _ _ (by show w.heap.size ≠ x.1; omega)).trans (unhide BB12)
        have g8 : W13.cell? ⟨M, 4, none⟩ = some (.int .i64 (sumA (xs3.map Prod.snd))) := cell_of bM13 4
        have g8f : W13.frozen? ⟨M, 4, none⟩ = false := froz_of bM13 _
        have g9 : W13.cell? ⟨w.heap.size, 5, none⟩ = some (.slice oa s.data.length dc) := cell_of bB13 5
        have CS13 := hide cs13
        have CH13 := hide ch13
        have BM13 := hide bM13
        have BB13 := hide bB13
        clear hW13 cs13 ch13 bM13 bB13 CS12 CH12 BM12 BB12 g6 g6f g7 t2
        go_region
        go_upto_region 26 with fail
        obtain ⟨W14, hW14⟩ : ∃ W, W = (W13.setCell ⟨M, 4, none⟩ (.int .i64 (sumA (xs3.map Prod.snd) + (64 + (s.data.length : Int))))).drew := ⟨_, rfl⟩
        rw [← hW14]
        have cs14 : W14.heap[x.1]? = some (.cells (((((cs.setIfInBounds (4 + n) (.bool true)).setIfInBounds (260 + n) v8).setIfInBounds 516 (.int .i64 ((x.2.got.length : Int) + 1))).setIfInBounds 517 (.int .i64 (lenS x.2.got + s.data.length))).setIfInBounds 518 (.int .i64 (costS x.2.got + (64 + s.data.length)))) 58 (0, 0)) := by rw [hW14]; exact (Below.heap_setCell _ _ _ _ (by show x.1 ≠ M; omega)).trans (unhide CS13)
        have ch14 : Ch [x.1, M] wc W14 := by rw [hW14]; exact ((unhide CH13).setCell _ _ (Or.inl (by simp))).drew
        have bM14 : W14.heap[M]? = some (.cells (mrow mx lt lim (.slice (some ⟨g, 0, none⟩) xs3.length cap) (sumA (xs3.map Prod.snd) + (64 + (s.data.length : Int)))) 48 (0, 0)) := by rw [hW14]; exact heap_setCell_row (unhide BM13) 4 _
        have chW : Ch [x.1, M] W8 W14 := (unhide CHA).trans ch14 (fun _ h => h) (fun _ h _ => h)
        have hAc : ∀ (k : Nat) (cs : Array Value), wc.heap[k]? = some (.cells cs 5 (0, 0)) → W14.heap[k]? = wc.heap[k]? := fun k cs' e => ch14.block k (lt_of_heap e) (by simp [tag_ne e (unhide BAC) (by decide), tag_ne e (unhide BMC) (by decide)])
        have hmc14 := mc_put (unhide MC8) (unhide HN) hn1 (unhide HCM) ((unhide BO8).keep hAc) (fun k cs' e => chW.block k (lt_of_heap e) (by simp [tag_ne e (unhide CS8) (by decide), tag_ne e (unhide R8).root (by decide)]))
        have hsumS : sumA ((xs3.map Prod.snd).set i (addA x.2 s)) = sumA (xs3.map Prod.snd) + (64 + (s.data.length : Int)) := by
          rw [sumA_set _ i x.2 _ (unhide HGET)]
          have := costS_app x.2.got (s.part, s.data)
          show _ - _ + costS (x.2.got ++ [(s.part, s.data)]) = _
          simp only at this
          omega
        obtain ⟨r14, fr14⟩ := put_repM (unhide R8) (Nat.le_trans (unhide HK0).1 (unhide FR8).below.size) i hi x (unhide HX) (addA x.2 s) _ cs14 hmc14 chW (by rw [hsumS]; exact bM14)
        obtain ⟨xs4, hxs4⟩ : ∃ l, l = xs3.set i (x.1, addA x.2 s) := ⟨_, rfl⟩
        rw [← hxs4] at r14
        have hl4 : xs4.length = xs3.length := by rw [hxs4, List.length_set]
        have hi4 : i < xs4.length := by omega
        have hg4 : xs4[i] = (x.1, addA x.2 s) := by simp only [hxs4, List.getElem_set_self]
        have hm4 : xs4.map Prod.snd = (xs3.map Prod.snd).set i (addA x.2 s) := by rw [hxs4, List.map_set]
        have he4 : xs4.eraseIdx i = xs3.eraseIdx i := by rw [hxs4, List.eraseIdx_set_eq]
        have hs4 : xs4.length ≤ 1099511627776 ∧ sumA (xs4.map Prod.snd) ≤ 1099511627776 := by
          have h1 := (unhide HB).1
          have h2 := (unhide OK6).sum
          have h3 := (unhide HK0).2
          have h4 := (unhide HS).data
          rw [hm4, hsumS, hl4]
          omega
        have FR14 : Hid (FrM K0 w W14) := (unhide FR8).trans fr14
        have p6 : ∀ q, (W14.drewN q).cell? ⟨x.1, 516, none⟩ = some (.int .i64 ((x.2.got.length : Int) + 1)) := fun _ => by
          have q := (cell_of cs14 516).trans hmc14.got
          simpa [addA] using q
        have p3 : ∀ q, (W14.drewN q).cell? ⟨x.1, 3, none⟩ = some (.int .i64 x.2.parts) := fun _ => (cell_of cs14 3).trans hmc14.parts
        have hmp : MP W14 (x.1, addA x.2 s) := ⟨_, cs14, hmc14⟩
        have R14 := hide r14
        have HS4 := hide hs4
        have HG4 := hide hg4
        have HM4 := hide hm4
        have HE4 := hide he4
        have HL4 := hide hl4
        have HMP := hide hmp
        have WK := hide (Nat.le_trans (unhide HK0).1 (unhide FR14).below.size)
        clear hW14 cs14 ch14 bM14 chW hAc hmc14 hsumS r14 fr14 hxs4 hl4 hg4 hm4 he4 hs4 hmp g8 g8f g9 t1 t3 CS13 CH13 BM13 BB13 CHA BAC BMC BO8 R8 FR8 CS8 BB8 MC8 HSZ
        by_cases cw : ((x.2.got.length : Int) + 1) = x.2.parts
        · -- DONE
          have eput : putA mx lim (xs3.map Prod.snd) i s = ((joinA (addA x.2 s).got, true, false), (xs3.eraseIdx i).map Prod.snd) := by
            unfold putA
            rw [unhide HGET]
            show (if come s.part x.2.got = true then _ else if mx < lenS x.2.got + s.data.length then _ else if ((x.2.got.length + 1 : Nat) : Int) = x.2.parts then _ else _) = _
            rw [unhide HN, unhide HCM, if_neg (by simp), if_neg cl, if_pos (by rw [← cw]; simp), mapE]
          have EPUT := hide eput
          have K16 : Hid (∀ q, Calls Tryf.prog 16 #[.pointer (some ⟨M, 0, none⟩), .int .i64 (i : Int)] (W14.drewN q) fun e w' => e = .returned (.tuple #[]) ∧ ∃ mv', RepM w' K0 M mx lt lim mv' (xs3.eraseIdx i) ∧ Ch [M] (W14.drewN q) w') := fun q => by
            rw [← unhide HE4]
            exact remove_any ((unhide R14).below (Gr.below ((Gr.refl W14).drewN q))) i hi4 (unhide HS4).1 (unhide HS4).2 (unhide WK)
          have K23 : Hid (∀ q w', Ch [M] (W14.drewN q) w' → Calls Tryf.prog 23 #[.pointer (some ⟨x.1, 0, none⟩)] w' fun e w'' => ∃ v, e = .returned v ∧ BO w'' v (joinA (addA x.2 s).got) ∧ Below w'.heap.size w' w'') := fun q w' hch => by
            have hrt := (unhide R14).root
            refine joined_any (x := (x.1, addA x.2 s)) ((unhide HMP).keep (fun k cs t e ht => hch.block k (lt_of_heap e) (by simpa using tag_ne e hrt (by rcases ht with rfl | rfl <;> decide)))) ?_
            have h1 := unhide HB
            have h2 := (unhide OK6).sum
            have h3 := (unhide HK0).2
            have h4 := (unhide HS).data
            show lenS (x.2.got ++ [(s.part, s.data)]) ≤ _
            rw [lenS_app]
            simp only
            omega
          clear eput
          go_quiet (fail)
          go_upto_region 28 with (go_at_call 16; refine Calls.mono (unhide K16 _) ?_; rintro e w15 ⟨rfl, h15⟩; have H15 := hide h15; clear h15)
          obtain ⟨mv15, r15, c15⟩ := unhide H15
          have R15 := hide r15
          have C15 := hide c15
          clear r15 c15 H15
          go_wp2_with (go_at_call 23; refine Calls.mono (unhide K23 _ _ (unhide C15)) ?_; rintro e w16 ⟨v, rfl, h16⟩; have H16 := hide h16; clear h16)
          refine bodyPost_ret (v := .tuple #[v, .bool true, .bool false]) (by simp [results, Tryf.results12, go_sem]) rfl ?_
          rw [unhide EPUT]
          obtain ⟨bo16, bl16⟩ := unhide H16
          have hb := Gr.below ((Gr.refl W14).drewN nq)
          have hF := (unhide FR14).trans ((FrM.of_below hb (unhide WK)).trans (FrM.of_remove ((unhide R14).below hb) (unhide C15) (Nat.le_trans (unhide WK) hb.size)))
          have hF2 := hF.trans (FrM.of_below bl16 (Nat.le_trans (unhide HK0).1 hF.below.size))
          exact ⟨v, mv15, xs3.eraseIdx i, rfl, Or.inr bo16, (unhide R15).below bl16, rfl, hF2⟩
        · have eput : putA mx lim (xs3.map Prod.snd) i s = (([], false, false), room lim xs4.length i (xs4.map Prod.snd)) := by
            unfold putA
            rw [unhide HGET]
            show (if come s.part x.2.got = true then _ else if mx < lenS x.2.got + s.data.length then _ else if ((x.2.got.length + 1 : Nat) : Int) = x.2.parts then _ else _) = _
            rw [unhide HN, unhide HCM, if_neg (by simp), if_neg cl, if_neg (by simpa using cw), unhide HM4, unhide HL4, List.length_map]
          have EPUT := hide eput
          clear eput
          go_quiet (fail)
          go_upto_block 2 with fail
          obtain ⟨W15, hW15⟩ : ∃ W, W = W14.drewN nq := ⟨_, rfl⟩
          rw [← hW15]
          have R15 : Hid (RepM W15 K0 M mx lt lim (.slice (some ⟨g, 0, none⟩) xs3.length cap) xs4) := by rw [hW15]; exact (unhide R14).below (Gr.below ((Gr.refl W14).drewN nq))
          have FR15 : Hid (FrM K0 w W15) := by rw [hW15]; exact (unhide FR14).trans (FrM.of_below (Gr.below ((Gr.refl W14).drewN nq)) (unhide WK))
          have HX4 : Hid (∃ h : i < xs4.length, (xs4[i]).1 = x.1) := ⟨hi4, by rw [unhide HG4]⟩
          clear hW15 R14 FR14 p6 p3 HMP
          go_wp2_with fail
          go_loopg [10, 11] xs4.length (fun gg v10 v11 w' => ∃ (mv' : Value) (xs' : List MM) (i' : Nat), gg = xs'.length ∧ Hid (∃ h : i' < xs'.length, (xs'[i']).1 = x.1) ∧ Hid (RepM w' K0 M mx lt lim mv' xs') ∧ Hid (xs'.length ≤ 1099511627776 ∧ sumA (xs'.map Prod.snd) ≤ 1099511627776) ∧ Hid (room lim xs'.length i' (xs'.map Prod.snd) = room lim xs4.length i (xs4.map Prod.snd)) ∧ Hid (FrM K0 w w'))
          case atStart => exact ⟨_, xs4, i, rfl, HX4, R15, HS4, rfl, FR15⟩
          case round =>
            clear R15 FR15 HX4
            obtain ⟨mv', xs', i', hg, HI, HR, HSM, HRM, HF⟩ := hrel
            have HG := hide hg
            obtain ⟨hi', hx'⟩ := unhide HI
            obtain ⟨g', cap', rfl, hgl, -, hrow⟩ := (unhide HR).row (by intro e; rw [e] at hi'; simp at hi')
            have b4 : ∀ q, (wr.drewN q).cell? ⟨M, 4, none⟩ = some (.int .i64 (sumA (xs'.map Prod.snd))) := fun _ => cell_of (unhide HR).root 4
            have b2' : ∀ q, (wr.drewN q).cell? ⟨M, 2, none⟩ = some (.int .i64 lim) := fun _ => cell_of (unhide HR).root 2
            have HROW := hide hrow
            have HXX := hide hx'
            have WK' := hide (Nat.le_trans (unhide HK0).1 (unhide HF).below.size)
            clear hg hrow hx' hgl
            obtain ⟨S', hS'⟩ : ∃ S', S' = sumA (xs'.map Prod.snd) := ⟨_, rfl⟩
            rw [← hS'] at b4
            have HSS := hide hS'
            clear hS'
            by_cases c : lim < S'
            · have cd : decide (lim < S') = true := by simp [c]
              go_wp2_with fail
              go_quiet (fail)
              obtain ⟨wq, hwq⟩ : ∃ W, W = wr.drewN nq := ⟨_, rfl⟩
              rw [← hwq]
              have HGq : Hid (Below wr.heap.size wr wq) := by rw [hwq]; exact Gr.below ((Gr.refl wr).drewN nq)
              have c3 : wq.cell? ⟨M, 3, none⟩ = some (.slice (some ⟨g', 0, none⟩) xs'.length cap') := by rw [hwq]; exact cell_of (unhide HR).root 3
              have RQ : Hid (RepM wq K0 M mx lt lim (.slice (some ⟨g', 0, none⟩) xs'.length cap') xs') := (unhide HR).below (unhide HGq)
              have hrq : ∀ k (hk : k < xs'.length), wq.cell? ⟨g', k, none⟩ = some (ptrM xs'[k]) := fun k hk => by rw [hwq]; exact unhide HROW k hk
              have FQ : Hid (FrM K0 w wq) := (unhide HF).trans (FrM.of_below (unhide HGq) (unhide WK'))
              have HRQ := hide hrq
              clear hwq b4 b2' hrq HROW
              have HC : Hid (lim < sumA (xs'.map Prod.snd)) := by rw [← unhide HSS]; exact c
              cases i' with
              | succ i2 =>
                obtain ⟨y, r, rfl⟩ : ∃ y r, xs' = y :: r := by
                  cases xs' with
                  | nil => simp at hi'
                  | cons y r => exact ⟨y, r, rfl⟩
                have hxr : ∃ h : i2 < r.length, (r[i2]).1 = x.1 := ⟨by simpa using hi', unhide HXX⟩
                have hne : y.1 ≠ x.1 := fun e => by
                  obtain ⟨h1, h2⟩ := hxr
                  have hnd := (unhide RQ).nodup
                  rw [List.map_cons, List.nodup_cons] at hnd
                  exact hnd.1 (List.mem_map.2 ⟨r[i2], List.getElem_mem h1, by rw [h2, e]⟩)
                have hbx : ∃ cb, wq.heap[x.1]? = some (.cells cb 58 (0, 0)) := by
                  obtain ⟨h1, h2⟩ := hxr
                  obtain ⟨cb, e, -⟩ := ((unhide RQ).each r[i2] (List.mem_cons_of_mem _ (List.getElem_mem h1))).2
                  rw [h2] at e
                  exact ⟨cb, e⟩
                obtain ⟨cb, hcb⟩ := hbx
                obtain ⟨cy, hcy, -⟩ := ((unhide RQ).each y (by simp)).2
                have hq := nq59_other wq (a := ⟨y.1, 0, none⟩) (b := ⟨x.1, 0, none⟩) (fun h => hne (by injection h)) hcy hcb
                have h0 : wq.cell? ⟨g', 0, none⟩ = some (.pointer (some ⟨y.1, 0, none⟩)) := unhide HRQ 0 (by simp)
                obtain ⟨N, hN⟩ : ∃ N, N = (y :: r).length := ⟨_, rfl⟩
                rw [← hN] at c3
                have z1 : (0 : Int) < (N : Int) := by rw [hN]; simp
                have K16 : Hid (Calls Tryf.prog 16 #[.pointer (some ⟨M, 0, none⟩), .int .i64 0] wq fun e w' => e = .returned (.tuple #[]) ∧ ∃ mv', RepM w' K0 M mx lt lim mv' r ∧ Ch [M] wq w') := remove_any (unhide RQ) 0 (by simp) (unhide HSM).1 (unhide HSM).2 (Nat.le_trans (unhide WK') (unhide HGq).size)
                have HXR := hide hxr
                clear hxr hne hcb hcy hN
                go_upto_block 4 with fail
                go_cut [10, 11] from 235 to 253 (fun v10 v11 w' => v10 = .int .i64 0 ∧ w' = wq)
                case first => -- DONE
                  go_wp2_with fail
                  go_loopg [10, 11] 1 (fun gg v10 v11 w' => gg = 1 ∧ v10 = .int .i64 (-1) ∧ v11 = .int .i64 0 ∧ w' = wq)
                  case atStart => exact ⟨rfl, rfl, rfl, rfl⟩
                  case round =>
                    obtain ⟨-, rfl, rfl, rfl⟩ := hrel
                    go_wp2_with fail
                    go_meet
                    case rel => exact ⟨rfl, rfl⟩
                case rest =>
                  rename World => wz
                  obtain ⟨rfl, rfl⟩ := hcut
                  go_wp2_with (go_at_call 16; refine Calls.mono (unhide K16) ?_; rintro e w16 ⟨rfl, h16⟩; have H16 := hide h16; clear h16)
                  go_roundg r.length
                  case measure => rw [unhide HG]; simp
                  case rel =>
                    obtain ⟨mv16, r16, c16⟩ := unhide H16
                    refine ⟨mv16, r, i2, rfl, unhide HXR, r16, ?_, ?_, (unhide FQ).trans (FrM.of_remove (unhide RQ) c16 (Nat.le_trans (unhide WK') (unhide HGq).size))⟩
                    · have h1 := unhide HSM
                      have h2 := costS_pos y.2.got
                      simp only [List.length_cons, List.map_cons, sumA] at h1
                      exact ⟨by omega, by omega⟩
                    · show _ = _
                      rw [← unhide HRM]
                      exact (room_first lim r.length i2 y.2 (r.map Prod.snd) (unhide HC)).symm
              | zero =>
                cases xs' with
                | nil => simp at hi'
                | cons y r =>
                  have hy1 : y.1 = x.1 := unhide HXX
                  have h0 : wq.cell? ⟨g', 0, none⟩ = some (.pointer (some ⟨x.1, 0, none⟩)) := by rw [← hy1]; exact unhide HRQ 0 (by simp)
                  have hq0 := nq59_same wq ⟨x.1, 0, none⟩
                  cases r with
                  | nil =>
                    clear hy1
                    go_upto_block 4 with fail
                    go_cut [10, 11] from 235 to 253 (fun v10 v11 w' => v10 = .int .i64 (-1) ∧ w' = wq)
                    case first => -- DONE
                      go_wp2_with fail
                      go_loopg [10, 11] 2 (fun gg v10 v11 w' => ∃ k : Nat, gg = 2 - k ∧ k ≤ 1 ∧ v10 = .int .i64 (-1) ∧ v11 = .int .i64 (k : Int) ∧ w' = wq)
                      case atStart => exact ⟨0, rfl, by omega, rfl, rfl, rfl⟩
                      case round =>
                        obtain ⟨k, hgk, hk, rfl, rfl, rfl⟩ := hrel
                        have hk' : k = 0 ∨ k = 1 := by omega
                        rcases hk' with rfl | rfl
                        · go_wp2_with fail
                          go_roundg 1
                          case measure => omega
                          case rel => exact ⟨1, rfl, by omega, rfl, rfl, rfl⟩
                        · go_wp2_with fail
                          go_meet
                          case rel => exact ⟨rfl, rfl⟩
                    case rest =>
                      rename World => wz
                      obtain ⟨rfl, rfl⟩ := hcut
                      go_wp2_with fail
                      refine bodyPost_ret (v := .tuple #[.slice none 0 0, .bool false, .bool false]) (by simp [results, Tryf.results12, go_sem]) rfl ?_
                      rw [unhide EPUT]
                      refine ⟨_, _, [y], rfl, Or.inr (Or.inl ⟨none, 0, rfl, rfl⟩), unhide RQ, ?_, unhide FQ⟩
                      rw [← unhide HRM]
                      exact (room_one lim _ y.2).symm
                  | cons z r =>
                    have hnz : z.1 ≠ x.1 := fun e => by
                      have hnd := (unhide RQ).nodup
                      rw [List.map_cons, List.nodup_cons] at hnd
                      exact hnd.1 (by rw [hy1, ← e]; simp)
                    obtain ⟨cy, hcy, -⟩ := ((unhide RQ).each y (by simp)).2
                    rw [hy1] at hcy
                    obtain ⟨cz, hcz, -⟩ := ((unhide RQ).each z (by simp)).2
                    have hq1 := nq59_other wq (a := ⟨z.1, 0, none⟩) (b := ⟨x.1, 0, none⟩) (fun h => hnz (by injection h)) hcz hcy
                    have h1 : wq.cell? ⟨g', 1, none⟩ = some (.pointer (some ⟨z.1, 0, none⟩)) := unhide HRQ 1 (by simp)
                    obtain ⟨N, hN⟩ : ∃ N, N = (y :: z :: r).length := ⟨_, rfl⟩
                    rw [← hN] at c3
                    have z1 : (0 : Int) < (N : Int) := by rw [hN]; simp; omega
                    have z2 : (1 : Int) < (N : Int) := by rw [hN]; simp; omega
                    have K16 : Hid (Calls Tryf.prog 16 #[.pointer (some ⟨M, 0, none⟩), .int .i64 1] wq fun e w' => e = .returned (.tuple #[]) ∧ ∃ mv', RepM w' K0 M mx lt lim mv' (y :: r) ∧ Ch [M] wq w') := remove_any (unhide RQ) 1 (by simp) (unhide HSM).1 (unhide HSM).2 (Nat.le_trans (unhide WK') (unhide HGq).size)
                    have HY1 := hide hy1
                    clear hnz hcy hcz hN hy1
                    go_upto_block 4 with fail
                    go_cut [10, 11] from 235 to 253 (fun v10 v11 w' => v10 = .int .i64 1 ∧ w' = wq)
                    case first => -- DONE
                      go_wp2_with fail
                      go_loopg [10, 11] 2 (fun gg v10 v11 w' => ∃ k : Nat, gg = 2 - k ∧ k ≤ 1 ∧ v10 = .int .i64 (-1) ∧ v11 = .int .i64 (k : Int) ∧ w' = wq)
                      case atStart => exact ⟨0, rfl, by omega, rfl, rfl, rfl⟩
                      case round =>
                        obtain ⟨k, hgk, hk, rfl, rfl, rfl⟩ := hrel
                        have hk' : k = 0 ∨ k = 1 := by omega
                        rcases hk' with rfl | rfl
                        · go_wp2_with fail
                          go_roundg 1
                          case measure => omega
                          case rel => exact ⟨1, rfl, by omega, rfl, rfl, rfl⟩
                        · go_wp2_with fail
                          go_meet
                          case rel => exact ⟨rfl, rfl⟩
                    case rest =>
                      rename World => wz
                      obtain ⟨rfl, rfl⟩ := hcut
                      go_wp2_with (go_at_call 16; refine Calls.mono (unhide K16) ?_; rintro e w16 ⟨rfl, h16⟩; have H16 := hide h16; clear h16)
                      go_roundg (y :: r).length
                      case measure => rw [unhide HG]; simp
                      case rel =>
                        obtain ⟨mv16, r16, c16⟩ := unhide H16
                        refine ⟨mv16, y :: r, 0, rfl, ⟨by simp, unhide HY1⟩, r16, ?_, ?_, (unhide FQ).trans (FrM.of_remove (unhide RQ) c16 (Nat.le_trans (unhide WK') (unhide HGq).size))⟩
                        · have h1 := unhide HSM
                          have h2 := costS_pos z.2.got
                          simp only [List.length_cons, List.map_cons, sumA] at h1 ⊢
                          exact ⟨by omega, by omega⟩
                        · show _ = _
                          rw [← unhide HRM]
                          exact (room_second lim (r.length + 1) y.2 z.2 (r.map Prod.snd) (unhide HC)).symm
            · -- DONE
              have cd : decide (lim < S') = false := by simp [c]
              go_wp2_with fail
              go_quiet (fail)
              go_wp2_with fail
              refine bodyPost_ret (v := .tuple #[.slice none 0 0, .bool false, .bool false]) (by simp [results, Tryf.results12, go_sem]) rfl ?_
              rw [unhide EPUT]
              have hb := Gr.below ((Gr.refl wr).drewN nq)
              refine ⟨_, _, xs', rfl, Or.inr (Or.inl ⟨none, 0, rfl, rfl⟩), (unhide HR).below hb, ?_, (unhide HF).trans (FrM.of_below hb (unhide WK'))⟩
              rw [← unhide HRM, room_keep _ _ _ _ (by rw [← unhide HSS]; omega)]

end Go.Proofs.Qxb6612998aFmt
