import Derived.Test.Qxb6609544aDoorAs4
namespace Go.Proofs.Qxb6609544aDoor
open Go.RowKit Go.Sort

/-- A node in memory: twelve cells. -/
def Node (w : World) (zp : Addr) (B : Nat) (x : Int × Int) (l r : Option Addr) (sz rch : Int) : Prop := w.cell? ⟨B, 0, none⟩ = some (.int .u64 0) ∧ w.cell? ⟨B, 1, none⟩ = some (.int .u64 (281470681743360 + x.1)) ∧ w.cell? ⟨B, 2, none⟩ = some (.pointer (some zp)) ∧ w.cell? ⟨B, 3, none⟩ = some (.int .u64 0) ∧ w.cell? ⟨B, 4, none⟩ = some (.int .u64 (281470681743360 + x.2)) ∧ w.cell? ⟨B, 5, none⟩ = some (.pointer (some zp)) ∧ w.cell? ⟨B, 6, none⟩ = some (.pointer l) ∧ w.cell? ⟨B, 7, none⟩ = some (.pointer r) ∧ w.cell? ⟨B, 8, none⟩ = some (.int .i64 sz) ∧ w.cell? ⟨B, 9, none⟩ = some (.int .u64 0) ∧ w.cell? ⟨B, 10, none⟩ = some (.int .u64 (281470681743360 + rch)) ∧ w.cell? ⟨B, 11, none⟩ = some (.pointer (some zp))
theorem Node.below {w w' : World} {zp : Addr} {B : Nat} {x : Int × Int} {l r : Option Addr} {sz rch : Int} {k : Nat} (h : Node w zp B x l r sz rch) (hb : Below k w w') (hB : B < k) : Node w' zp B x l r sz rch := by
  unfold Node at *
  have e : ∀ j, w'.cell? ⟨B, j, none⟩ = w.cell? ⟨B, j, none⟩ := fun j => hb.cell (p := ⟨B, j, none⟩) hB
  simp only [e]
  exact h

theorem left_any (w : World) (zp : Addr) (B : Nat) (x : Int × Int) (l r : Option Addr) (sz rch : Int) (h : Node w zp B x l r sz rch) :
    Calls Tryd.prog 39 #[.pointer (some ⟨B, 0, none⟩)] w fun e w' => e = .returned (.pointer l) ∧ w' = w := by
  obtain ⟨h0, h1, h2, h3, h4, h5, h6, h7, h8, h9, h10, h11⟩ := h
  go_enter Tryd.func39, Tryd.ntmps39
  go_wp2_with fail
  go_ret
  exact ⟨rfl, rfl⟩

theorem right_any (w : World) (zp : Addr) (B : Nat) (x : Int × Int) (l r : Option Addr) (sz rch : Int) (h : Node w zp B x l r sz rch) :
    Calls Tryd.prog 40 #[.pointer (some ⟨B, 0, none⟩)] w fun e w' => e = .returned (.pointer r) ∧ w' = w := by
  obtain ⟨h0, h1, h2, h3, h4, h5, h6, h7, h8, h9, h10, h11⟩ := h
  go_enter Tryd.func40, Tryd.ntmps40
  go_wp2_with fail
  go_ret
  exact ⟨rfl, rfl⟩

theorem size_any (w : World) (zp : Addr) (B : Nat) (x : Int × Int) (l r : Option Addr) (sz rch : Int) (h : Node w zp B x l r sz rch) :
    Calls Tryd.prog 44 #[.pointer (some ⟨B, 0, none⟩)] w fun e w' => e = .returned (.int .i64 sz) ∧ w' = w := by
  obtain ⟨h0, h1, h2, h3, h4, h5, h6, h7, h8, h9, h10, h11⟩ := h
  go_enter Tryd.func44, Tryd.ntmps44
  go_wp2_with fail
  go_ret
  exact ⟨rfl, rfl⟩

set_option maxHeartbeats 1000000 in
theorem entry_any (w : World) (zp : Addr) (B : Nat) (x : Int × Int) (l r : Option Addr) (sz rch : Int) (hB : B < w.heap.size) (h : Node w zp B x l r sz rch) :
    Calls Tryd.prog 41 #[.pointer (some ⟨B, 0, none⟩)] w fun e w' => e = .returned (.agg (enc6 zp x).toArray) ∧ ∃ q os, w' = grow (w.drewN q) os := by
  obtain ⟨h0, h1, h2, h3, h4, h5, h6, h7, h8, h9, h10, h11⟩ := h
  have d1 : ¬ B = w.heap.size := by omega
  have d2 : ¬ w.heap.size = B := by omega
  go_enter Tryd.func41, Tryd.ntmps41
  go_wp2_with fail
  exact bodyPost_ret (v := .agg (enc6 zp x).toArray) (by simp [results, Tryd.results41, go_sem, enc6]) rfl ⟨rfl, (Gr.refl _).alloc _⟩

set_option maxHeartbeats 1000000 in
set_option maxRecDepth 10000 in
theorem reach4_any (w : World) (zp : Addr) (B : Nat) (x : Int × Int) (l r : Option Addr) (sz n : Int) (hB : B < w.heap.size) (h : Node w zp B x l r sz n) (hn : isN n) (hz : Zs w zp) :
    Calls Tryd.prog 45 #[.pointer (some ⟨B, 0, none⟩)] w fun e w' => e = .returned (.agg (arr4 n).toArray) ∧ Below w.heap.size w w' := by
  obtain ⟨h0, h1, h2, h3, h4, h5, h6, h7, h8, h9, h10, h11⟩ := h
  have d1 : ¬ B = w.heap.size := by omega
  have d2 : ¬ w.heap.size = B := by omega
  have K := hide fun W h => as4_any n hn zp W h
  have HZ := hide hz
  clear hz hn
  simp only [arr4] at K ⊢
  generalize n / 16777216 = n0 at *
  generalize n / 65536 % 256 = n1 at *
  generalize n / 256 % 256 = n2 at *
  generalize n % 256 = n3 at *
  go_enter Tryd.func45, Tryd.ntmps45
  go_wp2_with fail
  refine (unhide K _ ((unhide HZ).alloc _)).mono ?_
  rintro e w8 ⟨rfl, HG⟩
  have hg := Gr.below HG
  have hb8 := hide (((Below.refl w.heap.size w).alloc (Nat.le_refl _) _).trans (hg.mono (by simp)))
  have c0 := (hg.cell (p := ⟨w.heap.size, 0, none⟩) (by simp)).trans (by simp; rfl)
  have c1 := (hg.cell (p := ⟨w.heap.size, 1, none⟩) (by simp)).trans (by simp; rfl)
  have c2 := (hg.cell (p := ⟨w.heap.size, 2, none⟩) (by simp)).trans (by simp; rfl)
  have c3 := (hg.cell (p := ⟨w.heap.size, 3, none⟩) (by simp)).trans (by simp; rfl)
  have hf : ∀ j, w8.frozen? ⟨w.heap.size, j, none⟩ = false := fun j => (hg.frozen (p := ⟨w.heap.size, j, none⟩) (by simp)).trans (by simp)
  clear hg HG
  go_wp2_with fail
  have hb : w.heap.size ≤ w.heap.size := Nat.le_refl _
  exact bodyPost_ret (v := .agg #[.int .u8 n0, .int .u8 n1, .int .u8 n2, .int .u8 n3]) (by simp [results, Tryd.results45, go_sem, c0, c1, c2, c3]) rfl ⟨rfl, ((((unhide hb8).setCell hb _).setCell hb _).setCell hb _).setCell hb _⟩

theorem root_any (w : World) (p : Option Addr) :
    Calls Tryd.prog 12 #[.agg #[.pointer p]] w fun e w' => e = .returned (.pointer p) ∧ ∃ q os, w' = grow (w.drewN q) os := by
  go_enter Tryd.func12, Tryd.ntmps12
  go_wp2_with fail
  go_ret
  exact ⟨rfl, (Gr.refl _).alloc _⟩

theorem allow_any (w : World) (B : Nat) (hB : B < w.heap.size) (p : Option Addr) (h : w.cell? ⟨B, 0, none⟩ = some (.pointer p)) :
    Calls Tryd.prog 13 #[.pointer (some ⟨B, 0, none⟩)] w fun e w' => e = .returned (.agg #[.pointer p]) ∧ ∃ q os, w' = grow (w.drewN q) os := by
  have d1 : ¬ B = w.heap.size := by omega
  have d2 : ¬ w.heap.size = B := by omega
  go_enter Tryd.func13, Tryd.ntmps13
  go_wp2_with fail
  exact bodyPost_ret (v := .agg #[.pointer p]) (by simp [results, Tryd.results13, go_sem]) rfl ⟨rfl, (Gr.refl _).alloc _⟩

theorem deny_any (w : World) (B : Nat) (hB : B < w.heap.size) (p : Option Addr) (h : w.cell? ⟨B, 1, none⟩ = some (.pointer p)) :
    Calls Tryd.prog 14 #[.pointer (some ⟨B, 0, none⟩)] w fun e w' => e = .returned (.agg #[.pointer p]) ∧ ∃ q os, w' = grow (w.drewN q) os := by
  have d1 : ¬ B = w.heap.size := by omega
  have d2 : ¬ w.heap.size = B := by omega
  go_enter Tryd.func14, Tryd.ntmps14
  go_wp2_with fail
  exact bodyPost_ret (v := .agg #[.pointer p]) (by simp [results, Tryd.results14, go_sem]) rfl ⟨rfl, (Gr.refl _).alloc _⟩
end Go.Proofs.Qxb6609544aDoor
