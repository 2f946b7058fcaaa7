import Derived.Test.Qxb6600706aMem
import Derived.Deep.CutBlock
import Derived.Deep.DeepCutAuto
import Derived.Deep.LoopGhost
namespace Go.Proofs.Qxb6600706a
open Go.RowKit

/-- The lines' matches. -/
def Mt (S T : Nat → ByteArray) : Nat → Nat → Bool := fun i j => (S i).toList == (T j).toList

/-- At the head of the search for d edits. -/
def Head (S T : Nat → ByteArray) (n m L : Nat) (d : Int) (F B : Int → Int) : Prop :=
  (∀ k, Dg n m (d - 1) k → Good (Mt S T) n m L (d - 1) k (F k)) ∧ (∀ k, Dg n m (d - 1) k → Good (rev (Mt S T) n m) n m L (d - 1) k (B k)) ∧ 2 * d - 1 ≤ (n : Int) + m - 2 * L

theorem tmod_two (x : Int) : x.tmod 2 ≠ 0 ↔ x % 2 ≠ 0 := by
  constructor
  · intro h e
    exact h (Int.tmod_eq_zero_of_dvd (Int.dvd_of_emod_eq_zero e))
  · intro h e
    exact h (Int.emod_eq_zero_of_dvd (Int.dvd_of_tmod_eq_zero e))

set_option maxHeartbeats 8000000 in
set_option maxRecDepth 100000 in
theorem snake_any (ab ao ca tb tq ct n m : Nat) (S T : Nat → ByteArray) (w0 : World) (hS : ∀ i, i < n → w0.cell? ⟨ab, ao + i, none⟩ = some (.string (S i))) (hT : ∀ i, i < m → w0.cell? ⟨tb, tq + i, none⟩ = some (.string (T i)))
    (ha : ab < w0.heap.size) (ht : tb < w0.heap.size) (hn : 1 ≤ n) (hn2 : n ≤ 10000) (hm : 1 ≤ m) (hm2 : m ≤ 10000) (h0 : ((S 0).toList == (T 0).toList) = false) (h1 : ((S (n - 1)).toList == (T (m - 1)).toList) = false) :
    Calls Try.prog 29 #[.slice (some ⟨ab, ao, none⟩) n ca, .slice (some ⟨tb, tq, none⟩) m ct] w0 fun e w' => ∃ x y u v : Int, e = .returned (.tuple #[.int .i64 x, .int .i64 y, .int .i64 u, .int .i64 v]) ∧ Res n m x y u v ∧ Below w0.heap.size w0 w' := by
  obtain ⟨L, hL⟩ := longest_exists (Mt S T) n m
  have htwo := hL.two hn hm h0 h1
  have HM := hide (Mem.made w0 n m ab ao tb tq S T hS hT ha ht)
  have hmk := make_any n m hn2 hm2
  clear hS hT h0 h1
  go_enter Try.func29, Try.ntmps29
  go_wp2_with fail
  clear hmk
  generalize hodd : (((n : Int) - m).tmod 2 != 0) = odd
  have HO : Hid (odd = true ↔ ((n : Int) - m) % 2 ≠ 0) := by
    rw [← hodd]
    show (((n : Int) - m).tmod 2 != 0) = true ↔ ((n : Int) - m) % 2 ≠ 0
    rw [bne_iff_ne]
    exact tmod_two _
  clear hodd
  have HL := hide hL
  clear hL
  go_loopg [14] (n + m + 1) (fun g dv w' => ∃ (d : Nat) (F B : Int → Int), g = n + m + 1 - d ∧ d ≤ n + m + 1 ∧ dv = .int .i64 d ∧ Hid (Head S T n m L d F B) ∧ Hid (Mem w0 w' n m ab ao tb tq w0.heap.size (w0.heap.size + 1) S T F B))
  case atStart =>
    exact ⟨0, fun _ => 0, fun _ => 0, rfl, by omega, rfl, ⟨fun k hk => by have := hk.1; omega, fun k hk => by have := hk.1; omega, by omega⟩, unhide HM⟩
  case round =>
    obtain ⟨d, F, B, hg, hd, rfl, HH, HMem⟩ := hrel
    have HG := hide hg
    clear HM hg
    by_cases hlt : d ≤ n + m
    · have hdi : (d : Int) ≤ (n : Int) + m := by omega
      obtain ⟨mn, hmn, mn1, mn2, mn3⟩ : ∃ mn : Int, (if n < d then (n : Int) else (d : Int)) = mn ∧ mn ≤ n ∧ mn ≤ d ∧ Hid (n ≤ mn ∨ d ≤ mn) := ⟨_, rfl, by split <;> omega, by split <;> omega, by show _ ∨ _; split <;> omega⟩
      obtain ⟨mo, hmo, mo1, mo2, mo3⟩ : ∃ mo : Int, (if (n : Int) < (d : Int) - 1 then (n : Int) else (d : Int) - 1) = mo ∧ mo ≤ n ∧ mo ≤ d - 1 ∧ Hid (n ≤ mo ∨ d - 1 ≤ mo) := ⟨_, rfl, by split <;> omega, by split <;> omega, by show _ ∨ _; split <;> omega⟩
      go_upto_block 2 with (go_at_call 32; refine (low_any _ _ (by omega) (by omega) (by omega) (by omega) _).mono ?_; rintro e w' ⟨rfl, rfl⟩)
      go_cut [] (fun w' => ∃ F' : Int → Int, Hid ((∀ k, Dg n m d k → Good (Mt S T) n m L d k (F' k)) ∧ 2 * (d : Int) ≤ (n : Int) + m - 2 * L) ∧ Hid (Mem w0 w' n m ab ao tb tq w0.heap.size (w0.heap.size + 1) S T F' B))
      case first => as_aux_lemma =>
        go_wp2_with fail
        go_loopg [15] (40000 - low (d : Int) (m : Int)).toNat (fun g kv w' => ∃ (j : Int) (F' : Int → Int), g = (40000 - j).toNat ∧ kv = .int .i64 j ∧ -10000 ≤ j ∧ j ≤ 30000 ∧ Hid (((d : Int) - j) % 2 = 0 ∧ -(m : Int) ≤ j ∧ -(d : Int) ≤ j ∧ Phase (Mt S T) (rev (Mt S T) n m) n m L d (d - 1) j F' B) ∧ Hid (Mem w0 w' n m ab ao tb tq w0.heap.size (w0.heap.size + 1) S T F' B))
        case atStart =>
          have hlp := low_par (m := m) (d : Int) (by omega)
          have hlu : low (d : Int) (m : Int) ≤ 1 := by unfold low; split <;> omega
          exact ⟨low (d : Int) (m : Int), F, rfl, rfl, by omega, by omega, ⟨hlp.1, hlp.2.1, hlp.2.2, Phase.begins (unhide HH).1 (unhide HH).2.1⟩, unhide HMem⟩
        case round =>
          obtain ⟨j, F', hgj, rfl, jb0, jb1, HP, HMem2⟩ := hrel
          have HGJ := hide hgj
          clear HMem hgj
          by_cases hj : j ≤ mn
          · have hdg : Dg n m d j := by
              obtain ⟨q1, q2, q3, _⟩ := unhide HP
              exact ⟨by omega, by omega, by omega, by omega, by omega, by omega⟩
            have hjm : 0 ≤ j + m := by have := hdg.2.2.2.1; omega
            have HDG := hide hdg
            clear hdg
            go_wp2_with fail
            refine (fur_any w0.heap.size _ n m F' d j _ (unhide HMem2).fr (unhide HMem2).fs hn2 hm2 (unhide HDG) (by omega)).mono ?_
            rintro e w' ⟨rfl, rfl⟩
            generalize hs : furth F' (d : Int) j (n : Int) (m : Int) = s
            have hs0 : -1 ≤ s := by
              rw [← hs]; unfold furth; split
              · omega
              · exact fur_ge _ _ _ _ _
            have HS := hide hs
            clear hs
            by_cases hneg : s < 0
            · obtain rfl : s = -1 := by omega
              have hcl := (unhide HMem2).fr.at (j + m) j rfl hjm (by omega)
              have hcf := (unhide HMem2).ff (j + m).toNat
              go_wp2_with fail
              go_roundg ((40000 - (j + 2)).toNat)
              case measure => rw [unhide HGJ]; omega
              case rel =>
                obtain ⟨q1, q2, q3, q4⟩ := unhide HP
                exact ⟨j + 2, upd F' j (-1), rfl, rfl, by omega, by omega, ⟨by omega, by omega, by omega, q4.next (unhide HL) (dual_fwd _) (unhide HDG) (.inl ⟨by rw [unhide HS]; omega, rfl⟩)⟩, (unhide HMem2).setF j (-1) (j + m) rfl hjm (by omega) (by omega) (by omega)⟩
            · have hs1 : 0 ≤ s := by omega
              have HPT := hide ((unhide HP).2.2.2.start (unhide HDG) (by rw [unhide HS]; exact hs1))
              obtain ⟨hs2, hs3, hs4⟩ : s ≤ n ∧ s - j ≤ m ∧ 0 ≤ s - j := by
                have hp := unhide HPT
                rw [unhide HS] at hp
                obtain ⟨x, y, t, e1, e2, e3, e4, _⟩ := hp
                omega
              clear hneg hs0
              go_upto_block 4 with fail
              go_cut [16] (fun xv w' => ∃ x : Int, xv = .int .i64 x ∧ s ≤ x ∧ x ≤ n ∧ x - j ≤ m ∧ Hid (Run (Mt S T) n m j s x) ∧ Hid (Mem w0 w' n m ab ao tb tq w0.heap.size (w0.heap.size + 1) S T F' B))
              case first => as_aux_lemma =>
                go_wp2_with fail
                go_loopg [16] (n - s).toNat (fun g xv w' => ∃ x : Int, g = (n - x).toNat ∧ xv = .int .i64 x ∧ s ≤ x ∧ x ≤ n ∧ x - j ≤ m ∧ Hid (∀ i : Int, s ≤ i → i < x → Mt S T i.toNat (i - j).toNat = true) ∧ Hid (Mem w0 w' n m ab ao tb tq w0.heap.size (w0.heap.size + 1) S T F' B))
                case atStart => exact ⟨s, rfl, rfl, by omega, by omega, by omega, fun i h1 h2 => by omega, unhide HMem2⟩
                case round =>
                  obtain ⟨x, hgx, rfl, hx1, hx2, hx3, HX, HMem3⟩ := hrel
                  have HGX := hide hgx
                  clear HMem2 hgx
                  by_cases t1 : x < n
                  · by_cases t2 : x - j < m
                    · have gA := (unhide HMem3).sa x.toNat (by omega)
                      have gB := (unhide HMem3).st (x - j).toNat (by omega)
                      by_cases t3 : ((S x.toNat).toList == (T (x - j).toNat).toList) = true
                      · go_wp2_with fail
                        go_quiet (fail)
                        go_wp2_with fail
                        go_roundg ((n - (x + 1)).toNat)
                        case measure => rw [unhide HGX]; omega
                        case rel =>
                          refine ⟨x + 1, rfl, rfl, by omega, by omega, by omega, fun i h1 h2 => ?_, (unhide HMem3).drewN _⟩
                          by_cases e : i = x
                          · rw [e]; exact t3
                          · exact unhide HX i h1 (by omega)
                      · have t3' : ((S x.toNat).toList == (T (x - j).toNat).toList) = false := by simpa using t3
                        clear t3
                        go_wp2_with fail
                        go_quiet (fail)
                        go_wp2_with fail
                        go_meet
                        case rel => exact ⟨x, rfl, by omega, by omega, by omega, ⟨hx1, hx2, hx3, unhide HX, fun q => by have := q.2.2; unfold Mt at this; rw [t3'] at this; cases this⟩, (unhide HMem3).drewN _⟩
                    · have t2' : decide (x - j < (m : Int)) = false := by simpa using t2
                      go_wp2_with fail
                      go_quiet (fail)
                      go_wp2_with fail
                      go_meet
                      case rel => exact ⟨x, rfl, by omega, by omega, by omega, ⟨hx1, hx2, hx3, unhide HX, fun q => by omega⟩, (unhide HMem3).drewN _⟩
                  · have t1' : decide (x < (n : Int)) = false := by simpa using t1
                    go_wp2_with fail
                    go_quiet (fail)
                    go_wp2_with fail
                    go_meet
                    case rel => exact ⟨x, rfl, by omega, by omega, by omega, ⟨hx1, hx2, hx3, unhide HX, fun q => by omega⟩, (unhide HMem3).drewN _⟩
              case rest => as_aux_lemma =>
                obtain ⟨x, rfl, hx1, hx2, hx3, HR, HMem3⟩ := hcut
                clear HMem2
                have hcl := (unhide HMem3).fr.at (j + m) j rfl hjm (by omega)
                have hcf := (unhide HMem3).ff (j + m).toNat
                have HMem4 := hide ((unhide HMem3).setF j x (j + m) rfl hjm (by omega) (by omega) (by omega))
                clear HMem3
                have hend : ∀ (_ : (n : Int) + m - 2 * L = (d : Int) + ((d : Int) - 1) → ¬ Hit n m ((d : Int) - 1) j x B), Phase (Mt S T) (rev (Mt S T) n m) n m L d (d - 1) (j + 2) (upd F' j x) B := fun hh =>
                  (unhide HP).2.2.2.next (unhide HL) (dual_fwd _) (unhide HDG) (.inr ⟨by rw [unhide HS]; exact hs1, by rw [unhide HS]; exact unhide HR, hh⟩)
                have HEND := hide hend
                clear hend
                cases odd with
                | false =>
                  go_wp2_with fail
                  go_roundg ((40000 - (j + 2)).toNat)
                  case measure => rw [unhide HGJ]; omega
                  case rel =>
                    obtain ⟨q1, q2, q3, _⟩ := unhide HP
                    exact ⟨j + 2, upd F' j x, rfl, rfl, by omega, by omega, ⟨by omega, by omega, by omega, unhide HEND fun e => by
                      exfalso
                      have ho := unhide HO
                      have : ((n : Int) - m) % 2 ≠ 0 := by omega
                      exact absurd (ho.2 this) (by decide)⟩, unhide HMem4⟩
                | true =>
                  by_cases c1 : low ((d : Int) - 1) (m : Int) ≤ (n : Int) - m - j
                  · by_cases c2 : (n : Int) - m - j ≤ mo
                    · have hmb : -(m : Int) ≤ (n : Int) - m - j := by
                        have := low_par (m := m) ((d : Int) - 1)
                        by_cases h0 : 0 ≤ (d : Int) - 1
                        · have := (this h0).2.1; omega
                        · unfold low at c1; split at c1 <;> omega
                      have hbc := (unhide HMem4).br.at ((n : Int) - m - j + m) ((n : Int) - m - j) rfl (by omega) (by omega)
                      have hbs := (unhide HMem4).bs ((n : Int) - m - j)
                      generalize hv : B ((n : Int) - m - j) = v at hbc hbs
                      have HV := hide hv
                      clear hv
                      have hv1 := hbs.1
                      have hv2 := hbs.2
                      clear hbs
                      by_cases c3 : 0 ≤ v
                      · by_cases c4 : (n : Int) ≤ x + v
                        · go_wp2_with (go_at_call 32; refine (low_any _ _ (by omega) (by omega) (by omega) (by omega) _).mono ?_; rintro e w' ⟨rfl, rfl⟩)
                          have hdg1 : Dg n m ((d : Int) - 1) ((n : Int) - m - j) := by
                            have ho := (unhide HO).1 (by simp)
                            have hq := (unhide HP).1
                            exact (low_dg (by omega)).1 ⟨c1, by omega⟩
                          have hres := (unhide HP).2.2.2.hit (unhide HL) (dual_fwd _) (unhide HDG) (by rw [unhide HS]; exact hs1) (by rw [unhide HS]; exact unhide HR) ⟨hdg1, by rw [unhide HV]; exact c3, by rw [unhide HV]; exact c4⟩ (by have := hdg1.1; omega) htwo (by have := (unhide HH).2.2; omega) (by omega)
                          rw [unhide HS] at hres
                          exact bodyPost_ret (v := .tuple #[.int .i64 s, .int .i64 (s - j), .int .i64 x, .int .i64 (x - j)]) (by simp [results, Try.results29, go_sem]) rfl ⟨s, s - j, x, x - j, rfl, hres, (unhide HMem4).bel⟩
                        · go_wp2_with (go_at_call 32; refine (low_any _ _ (by omega) (by omega) (by omega) (by omega) _).mono ?_; rintro e w' ⟨rfl, rfl⟩)
                          go_roundg ((40000 - (j + 2)).toNat)
                          case measure => rw [unhide HGJ]; omega
                          case rel =>
                            obtain ⟨q1, q2, q3, _⟩ := unhide HP
                            exact ⟨j + 2, upd F' j x, rfl, rfl, by omega, by omega, ⟨by omega, by omega, by omega, unhide HEND fun _ hh => by have := hh.2.2; rw [unhide HV] at this; omega⟩, unhide HMem4⟩
                      · go_wp2_with (go_at_call 32; refine (low_any _ _ (by omega) (by omega) (by omega) (by omega) _).mono ?_; rintro e w' ⟨rfl, rfl⟩)
                        go_roundg ((40000 - (j + 2)).toNat)
                        case measure => rw [unhide HGJ]; omega
                        case rel =>
                          obtain ⟨q1, q2, q3, _⟩ := unhide HP
                          exact ⟨j + 2, upd F' j x, rfl, rfl, by omega, by omega, ⟨by omega, by omega, by omega, unhide HEND fun _ hh => by have := hh.2.1; rw [unhide HV] at this; omega⟩, unhide HMem4⟩
                    · go_wp2_with (go_at_call 32; refine (low_any _ _ (by omega) (by omega) (by omega) (by omega) _).mono ?_; rintro e w' ⟨rfl, rfl⟩)
                      go_roundg ((40000 - (j + 2)).toNat)
                      case measure => rw [unhide HGJ]; omega
                      case rel =>
                        obtain ⟨q1, q2, q3, _⟩ := unhide HP
                        exact ⟨j + 2, upd F' j x, rfl, rfl, by omega, by omega, ⟨by omega, by omega, by omega, unhide HEND fun _ hh => by
                          have h1 := hh.1.2.2.1
                          have h2 := hh.1.2.2.2.2.1
                          rcases unhide mo3 with h | h <;> omega⟩, unhide HMem4⟩
                  · go_wp2_with (go_at_call 32; refine (low_any _ _ (by omega) (by omega) (by omega) (by omega) _).mono ?_; rintro e w' ⟨rfl, rfl⟩)
                    go_roundg ((40000 - (j + 2)).toNat)
                    case measure => rw [unhide HGJ]; omega
                    case rel =>
                      obtain ⟨q1, q2, q3, _⟩ := unhide HP
                      exact ⟨j + 2, upd F' j x, rfl, rfl, by omega, by omega, ⟨by omega, by omega, by omega, unhide HEND fun _ hh => by have := low_le hh.1; omega⟩, unhide HMem4⟩
          · go_wp2_with fail
            go_meet
            case rel =>
              have hend := (unhide HP).2.2.2.ends (unhide HL) (by omega) (by rcases unhide mn3 with h | h <;> omega) (by have := (unhide HH).2.2; omega)
              exact ⟨F', ⟨hend.1, by have := (unhide HH).2.2; have := hend.2; omega⟩, unhide HMem2⟩
      case rest => as_aux_lemma =>
        obtain ⟨F', HF, HMem2⟩ := hcut
        clear HMem
        go_wp2_with (go_at_call 32; refine (low_any _ _ (by omega) (by omega) (by omega) (by omega) _).mono ?_; rintro e w' ⟨rfl, rfl⟩)
        go_loopg [19] (40000 - low (d : Int) (m : Int)).toNat (fun g kv w' => ∃ (j : Int) (B' : Int → Int), g = (40000 - j).toNat ∧ kv = .int .i64 j ∧ -10000 ≤ j ∧ j ≤ 30000 ∧ Hid (((d : Int) - j) % 2 = 0 ∧ -(m : Int) ≤ j ∧ -(d : Int) ≤ j ∧ Phase (rev (Mt S T) n m) (Mt S T) n m L d d j B' F') ∧ Hid (Mem w0 w' n m ab ao tb tq w0.heap.size (w0.heap.size + 1) S T F' B'))
        case atStart =>
          have hlp := low_par (m := m) (d : Int) (by omega)
          have hlu : low (d : Int) (m : Int) ≤ 1 := by unfold low; split <;> omega
          exact ⟨low (d : Int) (m : Int), B, rfl, rfl, by omega, by omega, ⟨hlp.1, hlp.2.1, hlp.2.2, Phase.begins (unhide HH).2.1 (unhide HF).1⟩, unhide HMem2⟩
        case round =>
          obtain ⟨j, B', hgj, rfl, jb0, jb1, HP, HMem2'⟩ := hrel
          clear HMem2
          have HMem2 := HMem2'
          have HGJ := hide hgj
          clear HMem2' hgj
          by_cases hj : j ≤ mn
          · have hdg : Dg n m d j := by
              obtain ⟨q1, q2, q3, _⟩ := unhide HP
              exact ⟨by omega, by omega, by omega, by omega, by omega, by omega⟩
            have hjm : 0 ≤ j + m := by have := hdg.2.2.2.1; omega
            have HDG := hide hdg
            clear hdg
            go_wp2_with fail
            refine (fur_any (w0.heap.size + 1) _ n m B' d j _ (unhide HMem2).br (unhide HMem2).bs hn2 hm2 (unhide HDG) (by omega)).mono ?_
            rintro e w' ⟨rfl, rfl⟩
            generalize hs : furth B' (d : Int) j (n : Int) (m : Int) = s
            have hs0 : -1 ≤ s := by
              rw [← hs]; unfold furth; split
              · omega
              · exact fur_ge _ _ _ _ _
            have HS := hide hs
            clear hs
            by_cases hneg : s < 0
            · obtain rfl : s = -1 := by omega
              have hcl := (unhide HMem2).br.at (j + m) j rfl hjm (by omega)
              have hcf := (unhide HMem2).bf (j + m).toNat
              go_wp2_with fail
              go_roundg ((40000 - (j + 2)).toNat)
              case measure => rw [unhide HGJ]; omega
              case rel =>
                obtain ⟨q1, q2, q3, q4⟩ := unhide HP
                exact ⟨j + 2, upd B' j (-1), rfl, rfl, by omega, by omega, ⟨by omega, by omega, by omega, q4.next (unhide HL).rev (dual_bwd _) (unhide HDG) (.inl ⟨by rw [unhide HS]; omega, rfl⟩)⟩, (unhide HMem2).setB j (-1) (j + m) rfl hjm (by omega) (by omega) (by omega)⟩
            · have hs1 : 0 ≤ s := by omega
              have HPT := hide ((unhide HP).2.2.2.start (unhide HDG) (by rw [unhide HS]; exact hs1))
              obtain ⟨hs2, hs3, hs4⟩ : s ≤ n ∧ s - j ≤ m ∧ 0 ≤ s - j := by
                have hp := unhide HPT
                rw [unhide HS] at hp
                obtain ⟨x, y, t, e1, e2, e3, e4, _⟩ := hp
                omega
              clear hneg hs0
              go_upto_block 8 with fail
              go_cut [20] (fun xv w' => ∃ x : Int, xv = .int .i64 x ∧ s ≤ x ∧ x ≤ n ∧ x - j ≤ m ∧ Hid (Run (rev (Mt S T) n m) n m j s x) ∧ Hid (Mem w0 w' n m ab ao tb tq w0.heap.size (w0.heap.size + 1) S T F' B'))
              case first => as_aux_lemma =>
                go_wp2_with fail
                go_loopg [20] (n - s).toNat (fun g xv w' => ∃ x : Int, g = (n - x).toNat ∧ xv = .int .i64 x ∧ s ≤ x ∧ x ≤ n ∧ x - j ≤ m ∧ Hid (∀ i : Int, s ≤ i → i < x → rev (Mt S T) n m i.toNat (i - j).toNat = true) ∧ Hid (Mem w0 w' n m ab ao tb tq w0.heap.size (w0.heap.size + 1) S T F' B'))
                case atStart => exact ⟨s, rfl, rfl, by omega, by omega, by omega, fun i h1 h2 => by omega, unhide HMem2⟩
                case round =>
                  obtain ⟨x, hgx, rfl, hx1, hx2, hx3, HX, HMem3⟩ := hrel
                  have HGX := hide hgx
                  clear HMem2 hgx
                  by_cases t1 : x < n
                  · by_cases t2 : x - j < m
                    · have gA := (unhide HMem3).sa ((n : Int) - 1 - x).toNat (by omega)
                      have gB := (unhide HMem3).st ((m : Int) - 1 - (x - j)).toNat (by omega)
                      have er : rev (Mt S T) n m x.toNat (x - j).toNat = ((S ((n : Int) - 1 - x).toNat).toList == (T ((m : Int) - 1 - (x - j)).toNat).toList) := by
                        unfold rev Mt
                        rw [show n - 1 - x.toNat = ((n : Int) - 1 - x).toNat by omega, show m - 1 - (x - j).toNat = ((m : Int) - 1 - (x - j)).toNat by omega]
                      have ER := hide er
                      clear er
                      by_cases t3 : ((S ((n : Int) - 1 - x).toNat).toList == (T ((m : Int) - 1 - (x - j)).toNat).toList) = true
                      · go_wp2_with fail
                        go_quiet (fail)
                        go_wp2_with fail
                        go_roundg ((n - (x + 1)).toNat)
                        case measure => rw [unhide HGX]; omega
                        case rel =>
                          refine ⟨x + 1, rfl, rfl, by omega, by omega, by omega, fun i h1 h2 => ?_, (unhide HMem3).drewN _⟩
                          by_cases e : i = x
                          · rw [e, unhide ER]; exact t3
                          · exact unhide HX i h1 (by omega)
                      · have t3' : ((S ((n : Int) - 1 - x).toNat).toList == (T ((m : Int) - 1 - (x - j)).toNat).toList) = false := by simpa using t3
                        clear t3
                        go_wp2_with fail
                        go_quiet (fail)
                        go_wp2_with fail
                        go_meet
                        case rel => exact ⟨x, rfl, by omega, by omega, by omega, ⟨hx1, hx2, hx3, unhide HX, fun q => by have := q.2.2; rw [unhide ER, t3'] at this; cases this⟩, (unhide HMem3).drewN _⟩
                    · have t2' : decide (x - j < (m : Int)) = false := by simpa using t2
                      go_wp2_with fail
                      go_quiet (fail)
                      go_wp2_with fail
                      go_meet
                      case rel => exact ⟨x, rfl, by omega, by omega, by omega, ⟨hx1, hx2, hx3, unhide HX, fun q => by omega⟩, (unhide HMem3).drewN _⟩
                  · have t1' : decide (x < (n : Int)) = false := by simpa using t1
                    go_wp2_with fail
                    go_quiet (fail)
                    go_wp2_with fail
                    go_meet
                    case rel => exact ⟨x, rfl, by omega, by omega, by omega, ⟨hx1, hx2, hx3, unhide HX, fun q => by omega⟩, (unhide HMem3).drewN _⟩
              case rest => as_aux_lemma =>
                obtain ⟨x, rfl, hx1, hx2, hx3, HR, HMem3⟩ := hcut
                clear HMem2
                have hcl := (unhide HMem3).br.at (j + m) j rfl hjm (by omega)
                have hcf := (unhide HMem3).bf (j + m).toNat
                have HMem4 := hide ((unhide HMem3).setB j x (j + m) rfl hjm (by omega) (by omega) (by omega))
                clear HMem3
                have hend : ∀ (_ : (n : Int) + m - 2 * L = (d : Int) + (d : Int) → ¬ Hit n m (d : Int) j x F'), Phase (rev (Mt S T) n m) (Mt S T) n m L d d (j + 2) (upd B' j x) F' := fun hh =>
                  (unhide HP).2.2.2.next (unhide HL).rev (dual_bwd _) (unhide HDG) (.inr ⟨by rw [unhide HS]; exact hs1, by rw [unhide HS]; exact unhide HR, hh⟩)
                have HEND := hide hend
                clear hend
                cases odd with
                | true =>
                  go_wp2_with fail
                  go_roundg ((40000 - (j + 2)).toNat)
                  case measure => rw [unhide HGJ]; omega
                  case rel =>
                    obtain ⟨q1, q2, q3, _⟩ := unhide HP
                    exact ⟨j + 2, upd B' j x, rfl, rfl, by omega, by omega, ⟨by omega, by omega, by omega, unhide HEND fun e => by
                      exfalso
                      have ho := unhide HO
                      have h1 := ho.1 (by simp)
                      omega⟩, unhide HMem4⟩
                | false =>
                  by_cases c1 : low (d : Int) (m : Int) ≤ (n : Int) - m - j
                  · by_cases c2 : (n : Int) - m - j ≤ mn
                    · have hmb : -(m : Int) ≤ (n : Int) - m - j := by
                        have := (low_par (m := m) (d : Int) (by omega)).2.1
                        omega
                      have hbc := (unhide HMem4).fr.at ((n : Int) - m - j + m) ((n : Int) - m - j) rfl (by omega) (by omega)
                      have hbs := (unhide HMem4).fs ((n : Int) - m - j)
                      generalize hv : F' ((n : Int) - m - j) = v at hbc hbs
                      have HV := hide hv
                      clear hv
                      have hv1 := hbs.1
                      have hv2 := hbs.2
                      clear hbs
                      by_cases c3 : 0 ≤ v
                      · by_cases c4 : (n : Int) ≤ v + x
                        · go_wp2_with (go_at_call 32; refine (low_any _ _ (by omega) (by omega) (by omega) (by omega) _).mono ?_; rintro e w' ⟨rfl, rfl⟩)
                          have hev : ((n : Int) - m) % 2 = 0 := by
                            by_cases hz : ((n : Int) - m) % 2 = 0
                            · exact hz
                            · exact absurd ((unhide HO).2 hz) (by decide)
                          have hdg1 : Dg n m (d : Int) ((n : Int) - m - j) := by
                            have hq := (unhide HP).1
                            exact (low_dg (by omega)).1 ⟨c1, by omega⟩
                          have hge := (unhide HF).2
                          have hd1 : 1 ≤ (d : Int) := by
                            have hm := meet (unhide HL).rev (dual_bwd _) ((unhide HPT).run (by rw [unhide HS]; exact unhide HR)) (by rcases ((unhide HF).1 _ hdg1).1 with q | q; (rw [unhide HV] at q; omega); exact q) rfl (by rw [unhide HV]; omega)
                            omega
                          have hres := (unhide HP).2.2.2.hit (unhide HL).rev (dual_bwd _) (unhide HDG) (by rw [unhide HS]; exact hs1) (by rw [unhide HS]; exact unhide HR) ⟨hdg1, by rw [unhide HV]; exact c3, by rw [unhide HV]; omega⟩ hd1 htwo (by omega) (by omega)
                          rw [unhide HS] at hres
                          obtain ⟨z1, z2, z3, z4, z5, z6, z7, z8⟩ := hres
                          exact bodyPost_ret (v := .tuple #[.int .i64 ((n : Int) - x), .int .i64 ((m : Int) - (x - j)), .int .i64 ((n : Int) - s), .int .i64 ((m : Int) - (s - j))]) (by simp [results, Try.results29, go_sem]) rfl ⟨_, _, _, _, rfl, ⟨by omega, by omega, by omega, by omega, by omega, by omega, by omega, by omega⟩, (unhide HMem4).bel⟩
                        · go_wp2_with (go_at_call 32; refine (low_any _ _ (by omega) (by omega) (by omega) (by omega) _).mono ?_; rintro e w' ⟨rfl, rfl⟩)
                          go_roundg ((40000 - (j + 2)).toNat)
                          case measure => rw [unhide HGJ]; omega
                          case rel =>
                            obtain ⟨q1, q2, q3, _⟩ := unhide HP
                            exact ⟨j + 2, upd B' j x, rfl, rfl, by omega, by omega, ⟨by omega, by omega, by omega, unhide HEND fun _ hh => by have := hh.2.2; rw [unhide HV] at this; omega⟩, unhide HMem4⟩
                      · go_wp2_with (go_at_call 32; refine (low_any _ _ (by omega) (by omega) (by omega) (by omega) _).mono ?_; rintro e w' ⟨rfl, rfl⟩)
                        go_roundg ((40000 - (j + 2)).toNat)
                        case measure => rw [unhide HGJ]; omega
                        case rel =>
                          obtain ⟨q1, q2, q3, _⟩ := unhide HP
                          exact ⟨j + 2, upd B' j x, rfl, rfl, by omega, by omega, ⟨by omega, by omega, by omega, unhide HEND fun _ hh => by have := hh.2.1; rw [unhide HV] at this; omega⟩, unhide HMem4⟩
                    · go_wp2_with (go_at_call 32; refine (low_any _ _ (by omega) (by omega) (by omega) (by omega) _).mono ?_; rintro e w' ⟨rfl, rfl⟩)
                      go_roundg ((40000 - (j + 2)).toNat)
                      case measure => rw [unhide HGJ]; omega
                      case rel =>
                        obtain ⟨q1, q2, q3, _⟩ := unhide HP
                        exact ⟨j + 2, upd B' j x, rfl, rfl, by omega, by omega, ⟨by omega, by omega, by omega, unhide HEND fun _ hh => by
                          have h1 := hh.1.2.2.1
                          have h2 := hh.1.2.2.2.2.1
                          rcases unhide mn3 with h | h <;> omega⟩, unhide HMem4⟩
                  · go_wp2_with (go_at_call 32; refine (low_any _ _ (by omega) (by omega) (by omega) (by omega) _).mono ?_; rintro e w' ⟨rfl, rfl⟩)
                    go_roundg ((40000 - (j + 2)).toNat)
                    case measure => rw [unhide HGJ]; omega
                    case rel =>
                      obtain ⟨q1, q2, q3, _⟩ := unhide HP
                      exact ⟨j + 2, upd B' j x, rfl, rfl, by omega, by omega, ⟨by omega, by omega, by omega, unhide HEND fun _ hh => by have := low_le hh.1; omega⟩, unhide HMem4⟩
          · go_wp2_with fail
            go_roundg (n + m + 1 - (d + 1))
            case measure => rw [unhide HG]; omega
            case rel =>
              have hge := (unhide HF).2
              have hend := (unhide HP).2.2.2.ends (unhide HL).rev (by omega) (by rcases unhide mn3 with h | h <;> omega) (by omega)
              have h2 := hend.2
              refine ⟨d + 1, F', B', rfl, by omega, by go_num, ⟨fun k hk => ?_, fun k hk => ?_, by omega⟩, unhide HMem2⟩
              · rw [show ((d + 1 : Nat) : Int) - 1 = d by omega] at hk ⊢
                exact (unhide HF).1 k hk
              · rw [show ((d + 1 : Nat) : Int) - 1 = d by omega] at hk ⊢
                exact hend.1 k hk
    · exfalso
      have := (unhide HH).2.2
      omega
end Go.Proofs.Qxb6600706a
