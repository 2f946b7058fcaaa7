import Derived.Test.Qxb6612998aFmtLim
namespace Go.Proofs.Qxb6612998aFmt
open Go.RowKit Go.Sort Go.Extern.Stop Go.Stop Go.Extern

def BytP (w : World) (e : Ending) (w' : World) : Prop := ∃ r, e = .returned (.bool r) ∧ w' = w
set_option maxHeartbeats 4000000 in
theorem bytes5_any {w : World} {K0 : Nat} {oa : Option Addr} {n c : Nat} {ss : List Stp} (mx lt lim : Int) (h : Scr w K0 (.slice oa n c) ss) (hl : n ≤ 9223372036854775807) (hd : ∀ s ∈ ss, s.data.length ≤ 9223372036854775807) :
    Calls Tryf.prog 5 #[.int .i64 mx, .int .i64 lt, .int .i64 lim, .slice oa n c] w (BytP w) := by
  obtain ⟨rfl, hrow⟩ := h.row
  have HR := hide hrow
  have HD := hide hd
  clear h hrow hd
  by_cases c0 : (1048576 : Int) < (ss.length : Int)
  · go_enter Tryf.func5, Tryf.ntmps5
    go_wp2_with fail
    go_ret
    exact ⟨_, rfl, rfl⟩
  · have e0 : IntKind.i64.wrap (ss.length : Int) = (ss.length : Int) := by rw [IntKind.wrap_i64]; omega
    go_enter Tryf.func5, Tryf.ntmps5
    go_wp2_with fail
    go_loopg [9, 10] ss.length (fun gg sv iv w' => ∃ i : Nat, gg = ss.length - i ∧ i ≤ ss.length ∧ iv = .int .i64 (i : Int) ∧ w' = w ∧ (∃ t : Int, sv = .int .i64 t ∧ 0 ≤ t ∧ t ≤ 1048576))
    case atStart => exact ⟨0, by omega, Nat.zero_le _, rfl, rfl, _, rfl, by omega, by omega⟩
    case round =>
      obtain ⟨i, hgi, hi, rfl, rfl, t, rfl, ht0, ht1⟩ := hrel
      by_cases ci : i < ss.length
      · obtain ⟨b, off, da, dc, rfl, -, -, y5, -⟩ := unhide HR i ci
        have hdl := unhide HD _ (List.getElem_mem ci)
        generalize (ss[i]).data.length = d at *
        have z1 : (0 : Int) ≤ (i : Int) := by omega
        have z2 : (i : Int) < (ss.length : Int) := by omega
        have z3 : IntKind.i64.wrap ((i : Int) + 1) = (i : Int) + 1 := by rw [IntKind.wrap_i64]; omega
        by_cases cd : (1048576 : Int) < (d : Int)
        · go_wp2_with fail
          go_ret
          exact ⟨_, rfl, rfl⟩
        · have z5 : IntKind.i64.wrap (t + (d : Int)) = t + (d : Int) := by rw [IntKind.wrap_i64]; omega
          by_cases cs : (1048576 : Int) < t + (d : Int)
          · go_wp2_with fail
            go_ret
            exact ⟨_, rfl, rfl⟩
          · go_wp2_with fail
            go_roundg (ss.length - (i + 1))
            case measure => omega
            case rel => exact ⟨i + 1, rfl, by omega, by simp, rfl, t + (d : Int), rfl, by omega, by omega⟩
      · obtain rfl : i = ss.length := by omega
        have z2 : ¬ ((ss.length : Int) < (ss.length : Int)) := by omega
        go_wp2_with fail
        go_ret
        exact ⟨_, rfl, rfl⟩

theorem cst_bsum : ∀ ss : List Stp, cst ss ≤ 5 * bsum ss
  | [] => by simp [cst, bsum]
  | s :: r => by have := cst_bsum r; simp only [cst, bsum]; omega
theorem bsum_len : ∀ ss : List Stp, 64 * (ss.length : Int) ≤ bsum ss
  | [] => by simp [bsum]
  | s :: r => by have := bsum_len r; simp only [bsum, List.length_cons]; omega
theorem both_new {w : World} {K0 R M : Nat} {mx lt lim : Int} {mv : Value} (hR : RepR w K0 R mx lt lim []) (hM : RepM w K0 M mx lt lim mv []) : Both w K0 R M mx lt lim [] 0 :=
  ⟨⟨List.Pairwise.nil, by simp [sumA], fun a h => by simp at h⟩, [], mv, [], hR, List.Pairwise.nil, hM, rfl, rfl⟩
/-- What a law leaves. -/
def LawP (w : World) (K0 : Nat) (e : Ending) (w' : World) : Prop := e = .returned (.bool true) ∧ Below K0 w w'
/-- What the language gives of a step. -/
def okT (s : Stp) : Prop := (0 ≤ s.flags ∧ s.flags ≤ 255) ∧ ok64 s.now ∧ s.data.length ≤ 9223372036854775807
theorem okP_of {s : Stp} (h : okT s) (h1 : 1 ≤ s.part ∧ s.part ≤ s.parts ∧ s.parts ≤ 255) (h2 : s.data.length ≤ 1048576) : okP s := ⟨h.1, ⟨h1.1, h1.2.1⟩, h1.2.2, h.2.1, h2⟩

set_option maxHeartbeats 4000000 in
theorem law3_any (F : Interp) (w : World) (K0 : Nat) (mx lt lim : Int) (oa : Option Addr) (n c : Nat) (ss : List Stp) (hF : F.answers w.tape) (hK : K0 ≤ w.heap.size) (h : Scr w K0 (.slice oa n c) ss) (hl : n ≤ 9223372036854775807) (hT : ∀ s ∈ ss, okT s) :
    Calls Tryf.prog 3 #[.int .i64 mx, .int .i64 lt, .int .i64 lim, .slice oa n c] w (LawP w K0) := by
  have hn : n = ss.length := h.row.1
  have K5 := hide (bytes5_any mx lt lim h hl (fun s hs => (hT s hs).2.2))
  have K6 := hide (stepsBytes_any h 0 (by omega) hl (fun s hs => (hT s hs).2.2))
  have K7 := hide (stepsValid_any h hl)
  have K8 : Hid (∀ W, K0 ≤ W.heap.size → Calls Tryf.prog 8 #[.int .i64 mx, .int .i64 lt, .int .i64 lim] W fun e w' => ∃ R, e = .returned (.pointer (some ⟨R, 0, none⟩)) ∧ RepR w' K0 R mx lt lim [] ∧ Gr W w') := fun W hW => zznew_any W K0 mx lt lim hW
  have K9 : Hid (∀ W, K0 ≤ W.heap.size → Calls Tryf.prog 9 #[.int .i64 mx, .int .i64 lt, .int .i64 lim] W fun e w' => ∃ M, e = .returned (.pointer (some ⟨M, 0, none⟩)) ∧ RepM w' K0 M mx lt lim (.slice none 0 0) [] ∧ Gr W w') := fun W hW => newModel_any W K0 mx lt lim hW
  have H := hide h
  have HT := hide hT
  have HF := hide (And.intro hF (And.intro hK hn))
  clear h hT hF hK hl hn
  go_enter Tryf.func3, Tryf.ntmps3
  go_upto_if 16 with (go_at_call 5; refine Calls.mono (unhide K5) ?_; rintro e w1 ⟨r1, rfl, hw1⟩; obtain rfl : w = w1 := hw1.symm)
  cases r1 with
  | false =>
    go_wp2_with fail
    go_ret
    exact ⟨rfl, Below.refl _ _⟩
  | true =>
    go_upto_if 19 with (go_at_call 6; refine Calls.mono (unhide K6) ?_; rintro e w1 ⟨r2, rfl, hw1, h6⟩; obtain rfl : w = w1 := hw1.symm; have H6 := hide h6; clear h6)
    by_cases c6 : 1048576 < r2
    · go_wp2_with fail
      go_ret
      exact ⟨rfl, Below.refl _ _⟩
    · have h6 := unhide H6 (by omega)
      have HB := hide h6
      have C6 := hide c6
      clear h6 H6
      go_upto_if 22 with (go_at_call 7; refine Calls.mono (unhide K7) ?_; rintro e w2 ⟨r3, rfl, g2, h7⟩; have G2 := hide g2; have H7 := hide h7; clear g2 h7)
      cases r3 with
      | false =>
        go_wp2_with fail
        go_ret
        exact ⟨rfl, (unhide G2).below.mono (unhide HF).2.1⟩
      | true =>
        have hok : ∀ s ∈ ss, okP s := fun s hs => okP_of (unhide HT s hs) (unhide H7 rfl s hs) ((unhide HB).1 s hs)
        have hK2 : K0 ≤ w2.heap.size := Nat.le_trans (unhide HF).2.1 (unhide G2).size
        have K8' := hide (unhide K8 w2 hK2)
        have hcst : 0 + cst ss ≤ 8388608 := by
          have h1 := cst_bsum ss
          have h2 := (unhide HB).2
          have h3 := unhide C6
          omega
        have hln : ss.length ≤ 1048576 := by
          have h1 := bsum_len ss
          have h2 := (unhide HB).2
          have h3 := unhide C6
          omega
        have HOK := hide hok
        have HCL := hide (And.intro hcst hln)
        have HK2 := hide hK2
        clear hok hcst hln hK2 H7 K5 K6 K7
        go_upto_region 8 with (go_at_call 8; refine Calls.mono (unhide K8') ?_; rintro e w3 ⟨R, rfl, r3, g3⟩; have R3 := hide r3; have G3 := hide g3; clear r3 g3)
        have K9' := hide (unhide K9 w3 (Nat.le_trans (unhide HK2) (unhide G3).size))
        go_upto_region 9 with (go_at_call 9; refine Calls.mono (unhide K9') ?_; rintro e w4 ⟨M, rfl, r4, g4⟩; have R4 := hide r4; have G4 := hide g4; clear r4 g4)
        have hg : Gr w w4 := ((unhide G2).trans (unhide G3)).trans (unhide G4)
        have hbl : Below K0 w w4 := hg.below.mono (unhide HF).2.1
        have K10 := hide (run_any F w4 K0 R M mx lt lim [] ss (.slice oa n c) 0 (by rw [hbl.tape]; exact (unhide HF).1) (Nat.le_trans (unhide HF).2.1 hbl.size) (both_new ((unhide R3).below (unhide G4).below) (unhide R4)) (unhide HCL).1 (unhide HOK) (unhide HCL).2 ((unhide H).below hbl))
        have HBL := hide hbl
        clear hg hbl
        go_wp2_with (go_at_call 10; refine Calls.mono (unhide K10) ?_; rintro e w5 ⟨rfl, -, b5⟩; have B5 := hide b5; clear b5)
        go_ret
        exact ⟨rfl, (unhide HBL).trans (unhide B5)⟩
end Go.Proofs.Qxb6612998aFmt
