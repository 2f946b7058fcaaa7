import Derived.Test.Qxb6600706aCmp
import Derived.Test.Qxb6600706aSnake
import Derived.Deep.CutBlock
import Derived.Deep.DeepCutAuto
import Derived.Deep.LoopGhost
import Derived.Deep.RegionHeld3
import Derived.BigRegion
namespace Go.Proofs.Qxb6600706a
open Go.RowKit

/-- What holds on the way through compare. -/
def St (w w' : World) (sb ab tb ka kb N K : Nat) (S T : Nat → ByteArray) (A B A' B' : Nat → Bool) (a0 a1 b0 b1 : Int) : Prop :=
  CM w' sb ab tb ka kb N K S T A' B' ∧ Adds A A' a0 a1 ∧ Adds B B' b0 b1 ∧ Fr ka kb w w'

theorem St.drewN {w w' : World} {sb ab tb ka kb N K : Nat} {S T : Nat → ByteArray} {A B A' B' : Nat → Bool} {a0 a1 b0 b1 : Int} (h : St w w' sb ab tb ka kb N K S T A B A' B' a0 a1 b0 b1) (q : Nat) : St w (w'.drewN q) sb ab tb ka kb N K S T A B A' B' a0 a1 b0 b1 :=
  ⟨h.1.drewN q, h.2.1, h.2.2.1, h.2.2.2.drewN q⟩

theorem St.marks {w w' : World} {sb ab tb ka kb N K : Nat} {S T : Nat → ByteArray} {A B A' B' : Nat → Bool} {a0 a1 b0 b1 : Int} (h : St w w' sb ab tb ka kb N K S T A B A' B' a0 a1 b0 b1) (p q : Nat) (p1 : a0 ≤ p) (p2 : (p : Int) < a1) (p3 : p < N) (q1 : b0 ≤ q) (q2 : (q : Int) < b1) (q3 : q < K) :
    St w ((w'.setCell ⟨ka, p, none⟩ (.bool true)).setCell ⟨kb, q, none⟩ (.bool true)) sb ab tb ka kb N K S T A B (mark A' p) (mark B' q) a0 a1 b0 b1 ∧
    St w ((w'.setCell ⟨kb, q, none⟩ (.bool true)).setCell ⟨ka, p, none⟩ (.bool true)) sb ab tb ka kb N K S T A B (mark A' p) (mark B' q) a0 a1 b0 b1 :=
  ⟨⟨(h.1.setA p p3).setB q q3, h.2.1.trans (Adds.mark p p1 p2) (by omega) (by omega), h.2.2.1.trans (Adds.mark q q1 q2) (by omega) (by omega), (h.2.2.2.set _ _ (.inl rfl)).set _ _ (.inr rfl)⟩,
   ⟨(h.1.setB q q3).setA p p3, h.2.1.trans (Adds.mark p p1 p2) (by omega) (by omega), h.2.2.1.trans (Adds.mark q q1 q2) (by omega) (by omega), (h.2.2.2.set _ _ (.inr rfl)).set _ _ (.inl rfl)⟩⟩

set_option maxHeartbeats 4000000 in
set_option maxRecDepth 100000 in
theorem compare_any (sb ab tb ka kb N K : Nat) (S T : Nat → ByteArray) (hN : N ≤ 10000) (hK : K ≤ 10000) : ∀ (z : Nat) (a0 a1 b0 b1 : Int) (A B : Nat → Bool) (w : World), CM w sb ab tb ka kb N K S T A B →
    0 ≤ a0 → a0 ≤ a1 → a1 ≤ N → 0 ≤ b0 → b0 ≤ b1 → b1 ≤ K → (a1 - a0 + (b1 - b0)).toNat = z →
    Calls Try.prog 30 #[.pointer (some ⟨sb, 0, none⟩), .int .i64 a0, .int .i64 a1, .int .i64 b0, .int .i64 b1] w fun e w' => e = .returned (.tuple #[]) ∧ ∃ A' B', CM w' sb ab tb ka kb N K S T A' B' ∧ Adds A A' a0 a1 ∧ Adds B B' b0 b1 ∧ Fr ka kb w w' := by
  intro z
  induction z using Nat.strongRecOn with
  | _ z ih =>
    intro a0 a1 b0 b1 A B w hC ha0 ha1 ha2 hb0 hb1 hb2 hz
    have IH := hide ih
    have HZ := hide hz
    have HC := hide hC
    clear ih hz hC
    go_enter Try.func30, Try.ntmps30
    go_upto_block 0 with fail
    go_cut [1, 3] (fun av bv w' => ∃ (p q : Int) (A' B' : Nat → Bool), av = .int .i64 p ∧ bv = .int .i64 q ∧ a0 ≤ p ∧ p ≤ a1 ∧ b0 ≤ q ∧ q ≤ b1 ∧ Hid (p < a1 → q < b1 → ((S p.toNat).toList == (T q.toNat).toList) = false) ∧ Hid (St w w' sb ab tb ka kb N K S T A B A' B' a0 a1 b0 b1))
    case first => as_aux_lemma =>
      go_wp2_with fail
      go_loopg [1, 3] (a1 - a0).toNat (fun g av bv w' => ∃ (p q : Int) (A' B' : Nat → Bool), g = (a1 - p).toNat ∧ av = .int .i64 p ∧ bv = .int .i64 q ∧ a0 ≤ p ∧ p ≤ a1 ∧ b0 ≤ q ∧ q ≤ b1 ∧ Hid (St w w' sb ab tb ka kb N K S T A B A' B' a0 a1 b0 b1))
      case atStart => exact ⟨a0, b0, A, B, rfl, rfl, rfl, by omega, by omega, by omega, by omega, unhide HC, Adds.refl _ _ _, Adds.refl _ _ _, Fr.refl _ _ _⟩
      case round =>
        obtain ⟨p, q, A', B', hg, rfl, rfl, hp0, hp1, hq0, hq1, HS⟩ := hrel
        have HG := hide hg
        clear HC hg
        by_cases t1 : p < a1
        · by_cases t2 : q < b1
          · have g0 := (unhide HS).1.s0
            have g1 := (unhide HS).1.s1
            have gA := (unhide HS).1.sa p.toNat (by omega)
            have gB := (unhide HS).1.st q.toNat (by omega)
            by_cases t3 : ((S p.toNat).toList == (T q.toNat).toList) = true
            · go_wp2_with fail
              go_quiet (fail)
              have g2 := (unhide HS).1.s2
              have g3 := (unhide HS).1.s3
              have gK := (unhide HS).1.ca p.toNat (by omega)
              have gL := (unhide HS).1.cb q.toNat (by omega)
              have fK := (unhide HS).1.fa p.toNat
              have fL := (unhide HS).1.fb q.toNat
              have dd := (unhide HS).1.d0
              have dd1 := (unhide HS).1.d1
              have dd4 := (unhide HS).1.d4
              go_wp2_with fail
              go_region
              go_wp2_with fail
              go_roundg ((a1 - (p + 1)).toNat)
              case measure => rw [unhide HG]; omega
              case rel =>
                exact ⟨p + 1, q + 1, mark A' p.toNat, mark B' q.toNat, rfl, rfl, rfl, by omega, by omega, by omega, by omega, (((unhide HS).drewN _).marks p.toNat q.toNat (by omega) (by omega) (by omega) (by omega) (by omega) (by omega)).1⟩
            · have t3' : ((S p.toNat).toList == (T q.toNat).toList) = false := by simpa using t3
              clear t3
              go_wp2_with fail
              go_quiet (fail)
              go_wp2_with fail
              go_meet
              case rel => exact ⟨p, q, A', B', rfl, rfl, hp0, hp1, hq0, hq1, fun _ _ => t3', (unhide HS).drewN _⟩
          · have t2' : decide (q < b1) = false := by simpa using t2
            go_wp2_with fail
            go_quiet (fail)
            go_wp2_with fail
            go_meet
            case rel => exact ⟨p, q, A', B', rfl, rfl, hp0, hp1, hq0, hq1, fun _ h => by omega, (unhide HS).drewN _⟩
        · have t1' : decide (p < a1) = false := by simpa using t1
          go_wp2_with fail
          go_quiet (fail)
          go_wp2_with fail
          go_meet
          case rel => exact ⟨p, q, A', B', rfl, rfl, hp0, hp1, hq0, hq1, fun h _ => by omega, (unhide HS).drewN _⟩
    case rest =>
      obtain ⟨p, q, A1, B1, rfl, rfl, hp0, hp1, hq0, hq1, HX, HS1⟩ := hcut
      clear HC
      go_upto_block 2 with fail
      go_cut [2, 4] (fun av bv w' => ∃ (r t : Int) (A' B' : Nat → Bool), av = .int .i64 r ∧ bv = .int .i64 t ∧ p ≤ r ∧ r ≤ a1 ∧ q ≤ t ∧ t ≤ b1 ∧ Hid (p < r → q < t → ((S (r.toNat - 1)).toList == (T (t.toNat - 1)).toList) = false) ∧ Hid (St w w' sb ab tb ka kb N K S T A B A' B' a0 a1 b0 b1))
      case first => as_aux_lemma =>
        go_wp2_with fail
        go_loopg [2, 4] (a1 - p).toNat (fun g av bv w' => ∃ (r t : Int) (A' B' : Nat → Bool), g = (r - p).toNat ∧ av = .int .i64 r ∧ bv = .int .i64 t ∧ p ≤ r ∧ r ≤ a1 ∧ q ≤ t ∧ t ≤ b1 ∧ Hid (St w w' sb ab tb ka kb N K S T A B A' B' a0 a1 b0 b1))
        case atStart => exact ⟨a1, b1, A1, B1, rfl, rfl, rfl, by omega, by omega, by omega, by omega, unhide HS1⟩
        case round =>
          obtain ⟨r, t, A', B', hg, rfl, rfl, hr0, hr1, ht0, ht1, HS⟩ := hrel
          have HG := hide hg
          clear HS1 hg
          by_cases t1 : p < r
          · by_cases t2 : q < t
            · have g0 := (unhide HS).1.s0
              have g1 := (unhide HS).1.s1
              have gA := (unhide HS).1.sa (r.toNat - 1) (by omega)
              have gB := (unhide HS).1.st (t.toNat - 1) (by omega)
              have i1 : 0 ≤ r - 1 := by omega
              have i2 : r - 1 < (N : Int) := by omega
              have i3 : 0 ≤ t - 1 := by omega
              have i4 : t - 1 < (K : Int) := by omega
              by_cases t3 : ((S (r.toNat - 1)).toList == (T (t.toNat - 1)).toList) = true
              · go_wp2_with fail
                go_quiet (fail)
                have g2 := (unhide HS).1.s2
                have g3 := (unhide HS).1.s3
                have gK := (unhide HS).1.ca (r.toNat - 1) (by omega)
                have gL := (unhide HS).1.cb (t.toNat - 1) (by omega)
                have fK := (unhide HS).1.fa (r.toNat - 1)
                have fL := (unhide HS).1.fb (t.toNat - 1)
                have dd := (unhide HS).1.d0
                have dd1 := (unhide HS).1.d1
                have dd4 := (unhide HS).1.d4
                go_wp2_with fail
                go_region
                go_wp2_with fail
                go_roundg ((r - 1 - p).toNat)
                case measure => rw [unhide HG]; omega
                case rel =>
                  exact ⟨r - 1, t - 1, mark A' (r.toNat - 1), mark B' (t.toNat - 1), rfl, rfl, rfl, by omega, by omega, by omega, by omega, (((unhide HS).drewN _).marks (r.toNat - 1) (t.toNat - 1) (by omega) (by omega) (by omega) (by omega) (by omega) (by omega)).1⟩
              · have t3' : ((S (r.toNat - 1)).toList == (T (t.toNat - 1)).toList) = false := by simpa using t3
                clear t3
                go_wp2_with fail
                go_quiet (fail)
                go_wp2_with fail
                go_meet
                case rel => exact ⟨r, t, A', B', rfl, rfl, hr0, hr1, ht0, ht1, fun _ _ => t3', (unhide HS).drewN _⟩
            · have t2' : decide (q < t) = false := by simpa using t2
              go_wp2_with fail
              go_quiet (fail)
              go_wp2_with fail
              go_meet
              case rel => exact ⟨r, t, A', B', rfl, rfl, hr0, hr1, ht0, ht1, fun _ h => by omega, (unhide HS).drewN _⟩
          · have t1' : decide (p < r) = false := by simpa using t1
            go_wp2_with fail
            go_quiet (fail)
            go_wp2_with fail
            go_meet
            case rel => exact ⟨r, t, A', B', rfl, rfl, hr0, hr1, ht0, ht1, fun h _ => by omega, (unhide HS).drewN _⟩
      case rest =>
        obtain ⟨r, t, A2, B2, rfl, rfl, hr0, hr1, ht0, ht1, HY, HS⟩ := hcut
        clear HS1
        by_cases e1 : p = r
        · subst e1
          go_wp2_with fail
          exact bodyPost_ret (v := .tuple #[]) (by simp [results, Try.results30, go_sem]) rfl ⟨rfl, A2, B2, unhide HS⟩
        · have e1' : (p == r) = false := by simpa using e1
          by_cases e2 : q = t
          · subst e2
            go_wp2_with fail
            exact bodyPost_ret (v := .tuple #[]) (by simp [results, Try.results30, go_sem]) rfl ⟨rfl, A2, B2, unhide HS⟩
          · have e2' : (q == t) = false := by simpa using e2
            go_wp2_with fail
            have g0 := (unhide HS).1.s0
            have g1 := (unhide HS).1.s1
            have l0 : p < r := by omega
            have HX1 : Hid (((S (p.toNat + 0)).toList == (T (q.toNat + 0)).toList) = false) := unhide HX (by omega) (by omega)
            have HY1 : Hid (((S (p.toNat + (r.toNat - p.toNat - 1))).toList == (T (q.toNat + (t.toNat - q.toNat - 1))).toList) = false) := by
              have := unhide HY (by omega) (by omega)
              rw [show p.toNat + (r.toNat - p.toNat - 1) = r.toNat - 1 by omega, show q.toNat + (t.toNat - q.toNat - 1) = t.toNat - 1 by omega]
              exact this
            have l1 : q < t := by omega
            have k7 : ¬ (N = p.toNat) := by omega
            have k8 : ¬ (K = q.toNat) := by omega
            have k1 : 0 ≤ p := by omega
            have k2 : p ≤ r := by omega
            have k3 : r ≤ (N : Int) := by omega
            have k4 : 0 ≤ q := by omega
            have k5 : q ≤ t := by omega
            have k6 : t ≤ (K : Int) := by omega
            have HCALL : Hid (Calls Try.prog 29 #[.slice (some ⟨ab, p.toNat, none⟩) (r.toNat - p.toNat) (N - p.toNat), .slice (some ⟨tb, q.toNat, none⟩) (t.toNat - q.toNat) (K - q.toNat)] wc.drew fun e w' => ∃ x y u v : Int, e = .returned (.tuple #[.int .i64 x, .int .i64 y, .int .i64 u, .int .i64 v]) ∧ Res (r.toNat - p.toNat) (t.toNat - q.toNat) x y u v ∧ Below wc.drew.heap.size wc.drew w') :=
              snake_any ab p.toNat _ tb q.toNat _ (r.toNat - p.toNat) (t.toNat - q.toNat) (fun i => S (p.toNat + i)) (fun i => T (q.toNat + i)) wc.drew (fun i hi => (unhide HS).1.sa _ (by omega)) (fun i hi => (unhide HS).1.st _ (by omega)) (unhide HS).1.la (unhide HS).1.lt (by omega) (by omega) (by omega) (by omega) (unhide HX1) (unhide HY1)
            clear HX1 HY1 HX HY
            go_region_held3 (fun w' => w'.cell? ⟨sb, 0, none⟩ = some (.slice (some ⟨ab, 0, none⟩) N N) ∧ w'.cell? ⟨sb, 1, none⟩ = some (.slice (some ⟨tb, 0, none⟩) K K)) (first | exact ⟨(hbel.cell (p := ⟨sb, 0, none⟩) (unhide HS).1.ls).trans g0, (hbel.cell (p := ⟨sb, 1, none⟩) (unhide HS).1.ls).trans g1⟩ | exact ⟨g0, g1⟩) (first | (go_at_call 29; refine (unhide HCALL).mono ?_; rintro e w' ⟨x, y, u, v, rfl, hres, hbel⟩))
            obtain ⟨z1, z2, z3, z4, z5, z6, z7, z8⟩ := hres
            have y3 : u ≤ r - p := by omega
            have y5 : v ≤ t - q := by omega
            have y7 : x + y < r - p + (t - q) := by omega
            clear z3 z5 z7
            have HS3 : Hid (St w w' sb ab tb ka kb N K S T A B A2 B2 a0 a1 b0 b1) := ⟨((unhide HS).1.drewN 1).below hbel, (unhide HS).2.1, (unhide HS).2.2.1, ((unhide HS).2.2.2.drewN 1).trans (Fr.below hbel)⟩
            clear hbel HCALL g0 g1 HS
            go_wp2_with fail
            refine (unhide IH _ ?_ p (p + x) q (q + y) A2 B2 _ (unhide HS3).1 (by omega) (by omega) (by omega) (by omega) (by omega) (by omega) rfl).mono ?_
            · rw [← unhide HZ]; omega
            rintro e w2 ⟨rfl, A3, B3, hC3, hA3, hB3, hF3⟩
            have HS4 : Hid (St w w2 sb ab tb ka kb N K S T A B A3 B3 a0 a1 b0 b1) := ⟨hC3, (unhide HS3).2.1.trans hA3 (by omega) (by omega), (unhide HS3).2.2.1.trans hB3 (by omega) (by omega), (unhide HS3).2.2.2.trans hF3⟩
            clear HS3 hC3 hA3 hB3 hF3
            go_upto_block 4 with fail
            go_cut [] (fun w' => ∃ (A' B' : Nat → Bool), Hid (St w w' sb ab tb ka kb N K S T A B A' B' a0 a1 b0 b1))
            case first =>
              go_wp2_with fail
              go_loopg [140] (u - x).toNat (fun g cv w' => ∃ (c : Int) (A' B' : Nat → Bool), g = (u - x - c).toNat ∧ cv = .int .i64 c ∧ 0 ≤ c ∧ c ≤ u - x ∧ Hid (St w w' sb ab tb ka kb N K S T A B A' B' a0 a1 b0 b1))
              case atStart => exact ⟨0, A3, B3, by simp, rfl, by omega, by omega, unhide HS4⟩
              case round =>
                obtain ⟨c, A', B', hg, rfl, hc0, hc1, HS⟩ := hrel
                have HG := hide hg
                clear HS4 hg
                by_cases t1 : c < u - x
                · have g2 := (unhide HS).1.s2
                  have g3 := (unhide HS).1.s3
                  have gK := (unhide HS).1.ca (p + x + c).toNat (by omega)
                  have gL := (unhide HS).1.cb (q + y + c).toNat (by omega)
                  have fK := (unhide HS).1.fa (p + x + c).toNat
                  have fL := (unhide HS).1.fb (q + y + c).toNat
                  have dd := (unhide HS).1.d0
                  have dd1 := (unhide HS).1.d1
                  have dd4 := (unhide HS).1.d4
                  have i1 : 0 ≤ p + x + c := by omega
                  have i2 : p + x + c < (N : Int) := by omega
                  have i3 : 0 ≤ q + y + c := by omega
                  have i4 : q + y + c < (K : Int) := by omega
                  go_wp2_with fail
                  go_region
                  go_wp2_with fail
                  go_roundg ((u - x - (c + 1)).toNat)
                  case measure => rw [unhide HG]; omega
                  case rel =>
                    exact ⟨c + 1, mark A' (p + x + c).toNat, mark B' (q + y + c).toNat, rfl, rfl, by omega, by omega, (((unhide HS).drewN 1).marks (p + x + c).toNat (q + y + c).toNat (by omega) (by omega) (by omega) (by omega) (by omega) (by omega)).1⟩
                · go_wp2_with fail
                  go_meet
                  case rel => exact ⟨A', B', unhide HS⟩
            case rest =>
              obtain ⟨A4, B4, HS⟩ := hcut
              clear HS4
              go_wp2_with fail
              refine (unhide IH _ ?_ (p + u) r (q + v) t A4 B4 _ (unhide HS).1 (by omega) (by omega) (by omega) (by omega) (by omega) (by omega) rfl).mono ?_
              · rw [← unhide HZ]; omega
              rintro e w3 ⟨rfl, A5, B5, hC5, hA5, hB5, hF5⟩
              have HS5 : Hid (St w w3 sb ab tb ka kb N K S T A B A5 B5 a0 a1 b0 b1) := ⟨hC5, (unhide HS).2.1.trans hA5 (by omega) (by omega), (unhide HS).2.2.1.trans hB5 (by omega) (by omega), (unhide HS).2.2.2.trans hF5⟩
              clear HS hC5 hA5 hB5 hF5
              go_wp2_with fail
              go_end0
              exact ⟨rfl, A5, B5, unhide HS5⟩
end Go.Proofs.Qxb6600706a
