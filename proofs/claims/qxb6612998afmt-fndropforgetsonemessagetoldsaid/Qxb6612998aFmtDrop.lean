import Derived.Test.Qxb6612998aFmtRem
namespace Go.Proofs.Qxb6612998aFmt
open Go.RowKit Go.Sort

/-- The cells of a message in the making. -/
def pcells (port seq flags parts : Int) (gv : Value) (h0 h1 h2 h3 len cost n s : Int) (el : Option Addr) : Array Value := #[.int .u64 0, .int .u64 0, .pointer none, .int .u16 port, .int .u16 seq, .int .u8 flags, .int .i64 parts, gv, .int .u64 h0, .int .u64 h1, .int .u64 h2, .int .u64 h3, .int .i64 len, .int .i64 cost, .int .u64 n, .int .i64 s, .pointer none, .pointer el]

/-- What drop leaves. -/
def dropW (w : World) (R E r : Nat) (p n : Addr) (len cost : Int) (o : Obj) : World := (remW (((putM w.drew r o).drew).drewN 2) R E p n len).drew.setCell ⟨R, 9, none⟩ (.int .i64 cost)

set_option maxHeartbeats 2000000 in
set_option maxRecDepth 10000 in
theorem drop_any {w : World} {R r clock pA : Nat} {es pas : List Nat} {l : List Ent} {mx lt lim : Int} {n cost : Int} {port seq flags parts h0 h1 h2 h3 len mc tn ts : Int} {gv : Value} {v : Value} (j : Nat) (hj : j < es.length)
    (hr : Ring w R es pas) (ho : Root w R mx lt lim (some r) (some (At R es 1)) (some (At R es es.length)) n cost) (hm : w.heap[r]? = some (.map (l.map Ent.me).toArray clock)) (hl : look port seq l 0 = some (j, v))
    (hp : w.heap[pA]? = some (.cells (pcells port seq flags parts gv h0 h1 h2 h3 len mc tn ts (some ⟨es[j], 0, none⟩)) 97 (0, 0))) (hn : 1 ≤ n ∧ n ≤ 4611686018427387904) (hc : -4611686018427387904 ≤ cost - mc ∧ cost - mc ≤ 4611686018427387904) :
    Calls Tryf.prog 25 #[.pointer (some ⟨R, 0, none⟩), .pointer (some ⟨pA, 0, none⟩)] w fun e w' => e = .returned (.tuple #[]) ∧ w' = dropW w R es[j] r (At R es j) (At R es (j + 2)) (n - 1) (cost - mc) (.map ((l.eraseIdx j).map Ent.me).toArray clock) := by
  have dRr : R ≠ r := by rintro rfl; unfold Root at ho; rw [hm] at ho; cases ho
  have dpr : pA ≠ r := by rintro rfl; rw [hm] at hp; cases hp
  have dpR : pA ≠ R := tag_ne hp ho (by decide)
  have c3 : w.cell? ⟨R, 3, none⟩ = some (.map (some r)) := cell_of ho 3
  have p0 : w.cell? ⟨pA, 0, none⟩ = some (.int .u64 0) := cell_of hp 0
  have p1 : w.cell? ⟨pA, 1, none⟩ = some (.int .u64 0) := cell_of hp 1
  have p2 : w.cell? ⟨pA, 2, none⟩ = some (.pointer none) := cell_of hp 2
  have p3 : w.cell? ⟨pA, 3, none⟩ = some (.int .u16 port) := cell_of hp 3
  have p4 : w.cell? ⟨pA, 4, none⟩ = some (.int .u16 seq) := cell_of hp 4
  have hdel : ∀ ty, (Builtin.delete_ #[62, 83] ty #[.map (some r), .agg #[.int .u64 0, .int .u64 0, .pointer none, .int .u16 port, .int .u16 seq]]).run Tryf.prog w.drew = .ok (.tuple #[]) (putM w.drew r (.map ((l.eraseIdx j).map Ent.me).toArray clock)) := fun ty => delete_run w.drew r clock l port seq j v ty hm hl
  obtain ⟨W1, hW1⟩ : ∃ W, W = putM w.drew r (.map ((l.eraseIdx j).map Ent.me).toArray clock) := ⟨_, rfl⟩
  rw [← hW1] at hdel
  have b1 : ∀ k, k ≠ r → W1.heap[k]? = w.heap[k]? := fun k hk => by rw [hW1]; exact putM_other w.drew r _ k hk
  have ho1 : Root W1 R mx lt lim (some r) (some (At R es 1)) (some (At R es es.length)) n cost := (b1 R dRr).trans ho
  have hr1 : Ring W1 R es pas := ⟨hr.1, hr.2.1, fun i h => by
    rw [b1 _ (by intro e; have := hr.getE i h; rw [e, hm] at this; cases this)]; exact hr.getE i h⟩
  have hp1 := (b1 pA dpr).trans hp
  have q17 : W1.cell? ⟨pA, 17, none⟩ = some (.pointer (some ⟨es[j], 0, none⟩)) := cell_of hp1 17
  have K31 := hide (Remove_any (w := W1.drew) hr1 ho1 j hj hn)
  have HW1 := hide hW1
  obtain ⟨W2, hW2⟩ : ∃ W, W = remW (W1.drew.drewN 2) R es[j] (At R es j) (At R es (j + 2)) (n - 1) := ⟨_, rfl⟩
  have hro := ring_remove (w := W1.drew.drewN 2) hr1 ho1 j hj (n - 1)
  rw [← hW2] at K31 hro
  have ho2 := hro.2
  have hER : ∀ i (h : i < es.length), es[i] ≠ R := fun i h => tag_ne (hr1.getE i h) ho1 (by decide)
  have hpE : ∀ i (h : i < es.length), pA ≠ es[i] := fun i h => tag_ne hp1 (hr1.getE i h) (by decide)
  have hAt : ∀ k, pA ≠ (At R es k).block := fun k => by
    cases k with
    | zero => exact dpR
    | succ k =>
      by_cases h : k < es.length
      · rw [At_el R es k h]; exact hpE k h
      · rw [At_end R es k (by omega)]; exact dpR
  have hp2 : W2.heap[pA]? = some (.cells (pcells port seq flags parts gv h0 h1 h2 h3 len mc tn ts (some ⟨es[j], 0, none⟩)) 97 (0, 0)) := by
    rw [hW2, rem_heap (hAt j) (hAt (j + 2)) (hpE j hj) dpR]; exact hp1
  have q9 : W2.cell? ⟨R, 9, none⟩ = some (.int .i64 cost) := cell_of ho2 9
  have q13 : W2.cell? ⟨pA, 13, none⟩ = some (.int .i64 mc) := cell_of hp2 13
  have qf : W2.frozen? ⟨R, 9, none⟩ = false := froz_of ho2 9
  have ew : IntKind.i64.wrap (cost - mc) = cost - mc := by rw [IntKind.wrap_i64]; omega
  have HW2 := hide hW2
  have EW : Hid (dropW w R es[j] r (At R es j) (At R es (j + 2)) (n - 1) (cost - mc) (.map ((l.eraseIdx j).map Ent.me).toArray clock) = W2.drew.setCell ⟨R, 9, none⟩ (.int .i64 (cost - mc))) := by
    show _ = _
    unfold dropW; rw [hW2, hW1]
  rw [unhide EW]
  generalize hej : es[j] = E at *
  clear hW1 hW2 hr ho hm hl hp hn hc b1 ho1 hr1 hp1 hro ho2 hER hpE hAt hp2 hej HW1 HW2 EW
  go_enter Tryf.func25, Tryf.ntmps25
  go_wp2_with fail
  go_region
  go_wp2_with fail
  go_region_with (go_at_call 31; refine Calls.mono (unhide K31) ?_; rintro e w8 ⟨rfl, hw8⟩; subst hw8)
  go_wp2_with fail
  go_region
  go_wp2_with fail
  go_end0
  exact ⟨rfl, rfl⟩
end Go.Proofs.Qxb6612998aFmt
