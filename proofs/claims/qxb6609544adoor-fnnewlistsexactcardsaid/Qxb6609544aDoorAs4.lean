import Derived.Test.Qxb6609544aDoorOk
namespace Go.Proofs.Qxb6609544aDoor
open Go.RowKit Go.Sort

set_option maxHeartbeats 1000000 in
set_option maxRecDepth 10000 in
theorem bePut_any (b : Nat) (n : Int) (hn : isN n) (w : World) (u0 u1 u2 u3 : Value) (h0 : w.cell? ⟨b, 0, none⟩ = some u0) (h1 : w.cell? ⟨b, 1, none⟩ = some u1) (h2 : w.cell? ⟨b, 2, none⟩ = some u2) (h3 : w.cell? ⟨b, 3, none⟩ = some u3) (hf : ∀ j, w.frozen? ⟨b, j, none⟩ = false) :
    Calls Tryd.prog 71 #[.slice (some ⟨b, 0, none⟩) 4 4, .int .u32 n] w fun e w' => e = .returned (.tuple #[]) ∧ w' = (((w.setCell ⟨b, 0, none⟩ (.int .u8 (n / 16777216))).setCell ⟨b, 1, none⟩ (.int .u8 (n / 65536 % 256))).setCell ⟨b, 2, none⟩ (.int .u8 (n / 256 % 256))).setCell ⟨b, 3, none⟩ (.int .u8 (n % 256)) := by
  obtain ⟨n0, n1⟩ := hn
  go_enter Tryd.func71, Tryd.ntmps71
  go_wp2_with fail
  go_end0
  exact ⟨rfl, rfl⟩

set_option maxHeartbeats 1000000 in
set_option maxRecDepth 10000 in
theorem as4_any (n : Int) (hn : isN n) (zp : Addr) (w : World) (hz : Zs w zp) :
    Calls Tryd.prog 54 #[.agg #[.int .u64 0, .int .u64 (281470681743360 + n), .pointer (some zp)]] w fun e w' => e = .returned (.agg (arr4 n).toArray) ∧ ∃ q os, w' = grow (w.drewN q) os := by
  have g0 := hz.1
  have g1 := hz.2.1
  have hs := hz.2.2.1
  have hs0 : 0 < w.heap.size := by omega
  have hs1 : 1 < w.heap.size := by omega
  have q1 := zeq_same zp
  have q2 := zeq_nil zp
  have ew : IntKind.u32.wrap (281470681743360 + n) = n := by
    obtain ⟨h0, h1⟩ := hn
    simp [IntKind.wrap, IntKind.bits, IntKind.signed]
    omega
  have HN := hide hn
  clear hz hn
  have d1 : ¬ (w.heap.size = w.heap.size + 1) := by omega
  have d2 : ¬ (w.heap.size + 1 = w.heap.size) := by omega
  go_enter Tryd.func54, Tryd.ntmps54
  go_wp2_with fail
  go_region_held3 (fun w' => w'.cell? ⟨w.heap.size, 1, none⟩ = some (.int .u64 (281470681743360 + n)))
    (go_keep) (first | (go_at_call 71; refine (bePut_any _ n (unhide HN) _ (.int .u8 0) (.int .u8 0) (.int .u8 0) (.int .u8 0) ?_ ?_ ?_ ?_ ?_).mono ?_; exact (by simp); exact (by simp); exact (by simp); exact (by simp); exact (fun j => by simp); rintro e w8 ⟨rfl, rfl⟩))
  go_wp2_with fail
  exact bodyPost_ret (v := .agg (arr4 n).toArray) (by simp [results, Tryd.results54, go_sem, arr4]) rfl ⟨rfl, (((Gr.refl _).alloc _).alloc _).drew⟩

set_option maxHeartbeats 1000000 in
set_option maxRecDepth 10000 in
theorem first4_any (x : Int × Int) (hn : isN x.1) (zp : Addr) (w : World) (hz : Zs w zp) :
    Calls Tryd.prog 42 #[.agg (enc6 zp x).toArray] w fun e w' => e = .returned (.agg (arr4 x.1).toArray) ∧ Below w.heap.size w w' := by
  obtain ⟨n, m⟩ := x
  have K := hide fun W h => as4_any n hn zp W h
  have HZ := hide hz
  clear hz hn
  simp only [enc6, arr4] at K ⊢
  generalize n / 16777216 = n0 at *
  generalize n / 65536 % 256 = n1 at *
  generalize n / 256 % 256 = n2 at *
  generalize n % 256 = n3 at *
  go_enter Tryd.func42, Tryd.ntmps42
  go_wp2_with fail
  refine (unhide K _ (((unhide HZ).alloc _).alloc _)).mono ?_
  rintro e w8 ⟨rfl, HG⟩
  have hg := Gr.below HG
  have hB := hide ((((Below.refl w.heap.size w).alloc (Nat.le_refl _) _).alloc (by simp) _).trans (hg.mono (by simp; omega)))
  have c0 := (hg.cell (p := ⟨w.heap.size + 1, 0, none⟩) (by simp)).trans (by simp; rfl)
  have c1 := (hg.cell (p := ⟨w.heap.size + 1, 1, none⟩) (by simp)).trans (by simp; rfl)
  have c2 := (hg.cell (p := ⟨w.heap.size + 1, 2, none⟩) (by simp)).trans (by simp; rfl)
  have c3 := (hg.cell (p := ⟨w.heap.size + 1, 3, none⟩) (by simp)).trans (by simp; rfl)
  have hf : ∀ j, w8.frozen? ⟨w.heap.size + 1, j, none⟩ = false := fun j => (hg.frozen (p := ⟨w.heap.size + 1, j, none⟩) (by simp)).trans (by simp)
  clear hg HG
  go_wp2_with fail
  have hb : w.heap.size ≤ w.heap.size + 1 := by omega
  exact bodyPost_ret (v := .agg #[.int .u8 n0, .int .u8 n1, .int .u8 n2, .int .u8 n3]) (by simp [results, Tryd.results42, go_sem, c0, c1, c2, c3]) rfl ⟨rfl, ((((unhide hB).setCell hb _).setCell hb _).setCell hb _).setCell hb _⟩

set_option maxHeartbeats 1000000 in
set_option maxRecDepth 10000 in
theorem last4_any (x : Int × Int) (hn : isN x.2) (zp : Addr) (w : World) (hz : Zs w zp) :
    Calls Tryd.prog 43 #[.agg (enc6 zp x).toArray] w fun e w' => e = .returned (.agg (arr4 x.2).toArray) ∧ Below w.heap.size w w' := by
  obtain ⟨n, m⟩ := x
  have K := hide fun W h => as4_any m hn zp W h
  have HZ := hide hz
  clear hz hn
  simp only [enc6, arr4] at K ⊢
  generalize m / 16777216 = n0 at *
  generalize m / 65536 % 256 = n1 at *
  generalize m / 256 % 256 = n2 at *
  generalize m % 256 = n3 at *
  go_enter Tryd.func43, Tryd.ntmps43
  go_wp2_with fail
  refine (unhide K _ (((unhide HZ).alloc _).alloc _)).mono ?_
  rintro e w8 ⟨rfl, HG⟩
  have hg := Gr.below HG
  have hB := hide ((((Below.refl w.heap.size w).alloc (Nat.le_refl _) _).alloc (by simp) _).trans (hg.mono (by simp; omega)))
  have c0 := (hg.cell (p := ⟨w.heap.size + 1, 0, none⟩) (by simp)).trans (by simp; rfl)
  have c1 := (hg.cell (p := ⟨w.heap.size + 1, 1, none⟩) (by simp)).trans (by simp; rfl)
  have c2 := (hg.cell (p := ⟨w.heap.size + 1, 2, none⟩) (by simp)).trans (by simp; rfl)
  have c3 := (hg.cell (p := ⟨w.heap.size + 1, 3, none⟩) (by simp)).trans (by simp; rfl)
  have hf : ∀ j, w8.frozen? ⟨w.heap.size + 1, j, none⟩ = false := fun j => (hg.frozen (p := ⟨w.heap.size + 1, j, none⟩) (by simp)).trans (by simp)
  clear hg HG
  go_wp2_with fail
  have hb : w.heap.size ≤ w.heap.size + 1 := by omega
  exact bodyPost_ret (v := .agg #[.int .u8 n0, .int .u8 n1, .int .u8 n2, .int .u8 n3]) (by simp [results, Tryd.results43, go_sem, c0, c1, c2, c3]) rfl ⟨rfl, ((((unhide hB).setCell hb _).setCell hb _).setCell hb _).setCell hb _⟩
end Go.Proofs.Qxb6609544aDoor
