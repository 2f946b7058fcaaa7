/-
  FnDefaultWorkersBoundedAndMonotone: the walk (no way comes to fmt), and the told card.
-/
import Derived.Test.Qxb6002583aFmtCards
import Derived.WalkKit
import Derived.WalkSpells
import Derived.ProofKit
import Derived.Stop.JoinedAt
import Derived.Stop.JoinedTold
import Derived.SevenToldRow
namespace Go.Proofs.Qxb6002583aFmt
open Go.ChangeShapes Go.WideShapes Go.ChangeAt Go.RowKit Go.Kit
open Go.Extern.Stop Go.Stop Go.Extern

theorem own : ownKnob Tryf.prog.godebug = none := by kernel_rfl
theorem laidOut : laidOutB Tryf.pinned.checked.prog = true := by kernel_rfl
theorem stopsAre : Tryf.pinned.checked.prog.stops = ["fmt.errorf"] := by kernel_rfl
theorem knobsAre : Tryf.pinned.checked.prog.stopKnobs = [] := by kernel_rfl
theorem quiet (os : Os) : Stop.quiet Tryf.pinned.checked.prog os := by
  intro k hk
  rw [knobsAre] at hk
  cases hk

set_option maxHeartbeats 400000 in
theorem walk (q c : Int) (w : World) (c0 : -9223372036854775808 ≤ c) (c1 : c ≤ 9223372036854775807) :
    Calls Tryf.prog 3 #[.int .i64 q, .int .i64 c] w fun e w' => e = .returned (.bool true) ∧ w' = w := by
  by_cases h1 : c < 1
  · go_enter Tryf.func3, Tryf.ntmps3
    go_wp2
    go_ret
    exact ⟨rfl, rfl⟩
  · by_cases h2 : 268435456 ≤ c
    · go_enter Tryf.func3, Tryf.ntmps3
      go_wp2
      go_ret
      exact ⟨rfl, rfl⟩
    · by_cases h3 : q < 0
      · go_enter Tryf.func3, Tryf.ntmps3
        go_wp2
        go_ret
        exact ⟨rfl, rfl⟩
      · by_cases h4 : c < 50
        · go_enter Tryf.func3, Tryf.ntmps3
          go_wp2
          all_goals (go_ret; exact ⟨rfl, rfl⟩)
        · by_cases h5 : 200 < c
          · go_enter Tryf.func3, Tryf.ntmps3
            go_wp2
            all_goals (go_ret; exact ⟨rfl, rfl⟩)
          · go_enter Tryf.func3, Tryf.ntmps3
            go_wp2
            all_goals (go_ret; exact ⟨rfl, rfl⟩)


set_option maxRecDepth 100000 in
theorem lifted (os : Os) (started : os.Started) (H : Type) (enc : TypeId × Value → H) :
    ReturnsInTold none {} Tryf.checked os 3 .any Input.okWide ((OpenSpec.ofChange Rows.fnDefaultWorkersBoundedAndMonotoneSpec).preRow enc Tryf.prog Tryf.f3 [] false []) (fun F => ((OpenSpec.ofChange Rows.fnDefaultWorkersBoundedAndMonotoneSpec).at F).post enc Tryf.prog Tryf.f3 false true false false) (aloneAtReturn Tryf.prog) nothingAlways := by
  refine returnsInTold_of_row (C := Tryf.checked) (s := OpenSpec.ofChange Rows.fnDefaultWorkersBoundedAndMonotoneSpec) (by kernel_rfl) own started (by kernel_rfl) Tryf.func3
    (OpenSpec.witness_stopped (enc := enc) (C := Tryf.checked) false ⟨#[], #[.int .i64 0, .int .i64 0], []⟩ 8 (by kernel_rfl) (by kernel_rfl) (by kernel_rfl) (by kernel_rfl)) ?_
  intro F W base args ds gs before _ hF hval0 hW _ _ _ _ _
  have hval : ∀ (j : Nat) t v, Tryf.f3.params[j]? = some t → args[j]? = some v → Value.okWide Tryf.prog W .any base t v := hval0
  have hW' := hW
  obtain ⟨p, q, hA0, hV, rfl, hfz, hnd⟩ := hW
  have hA : DataW.TrodAll enc Tryf.prog W 0 (fun _ => true) true Tryf.f3.params.toList args.toList ds p := hA0
  rw [Tryf.params3] at hA hval
  obtain ⟨v0, v1, d0, d1, p0, p1, rfl, rfl, rfl, h0, h1⟩ := trodAll_two hA
  obtain ⟨rfl, rfl⟩ := trodVars_none hV
  obtain ⟨a, rfl, rfl, rfl, wa⟩ := open_int Tryf.underlying3 (hval 0 3 v0 rfl rfl) h0
  obtain ⟨b, rfl, rfl, rfl, wb⟩ := open_int Tryf.underlying3 (hval 1 3 v1 rfl rfl) h1
  clear hA0 hval0
  have hb := wb
  simp [Lit.wf, IntKind.min, IntKind.max, IntKind.signed, IntKind.bits] at hb
  refine (walk a b W hb.1 hb.2).mono fun e W' ⟨he, hw⟩ => ?_
  subst he; subst hw
  refine ⟨_, rfl, _, _, _, [], [], [], hW', ?_, ?_, rfl, World.keptBut_refl _ _, fun h => by cases h⟩
  · exact trodAll_mk1 (shut_bool Tryf.underlying4 _)
  · exact trodAll_mk2 (shut_int Tryf.underlying3 wa) (shut_int Tryf.underlying3 wb)

theorem proved : Rows.FnDefaultWorkersBoundedAndMonotoneToldSaid :=
  Claim7.holds_of_told_any 3 Tryf.f3 "fmt.errorf" [] [] _ _ _ (by kernel_rfl) rfl rfl rfl laidOut (by kernel_rfl) rfl ⟨rfl, rfl, rfl, rfl, rfl, rfl, rfl⟩ rfl rfl (by kernel_rfl) (by kernel_rfl) Tryf.func3 (by kernel_rfl)
    (of_decide_eq_true (by kernel_rfl)) (of_decide_eq_true (by kernel_rfl)) stopsAre.symm rfl knobsAre.symm (by kernel_rfl)
    (by kernel_rfl) (by kernel_rfl) (by kernel_rfl) (by kernel_rfl) (by kernel_rfl) (by kernel_rfl) (by kernel_rfl) (by kernel_rfl) (by kernel_rfl) rfl (by kernel_rfl) rfl rfl
    rfl rfl
    rfl (by kernel_rfl) (by kernel_rfl) (by kernel_rfl) (by decide) (by kernel_rfl)
    (OpenClaim.moreEntering_of (by kernel_rfl) (by kernel_rfl) (by kernel_rfl) (by kernel_rfl) (by kernel_rfl) (by kernel_rfl) (by kernel_rfl) (by kernel_rfl) (by kernel_rfl) (by kernel_rfl))
    ⟨_, WideRow.started_initial, quiet _⟩
    (fun os started _ H enc _ => lifted os started H enc)

end Go.Proofs.Qxb6002583aFmt
