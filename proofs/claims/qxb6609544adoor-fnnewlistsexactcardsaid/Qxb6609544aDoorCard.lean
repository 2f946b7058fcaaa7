import Derived.Test.Qxb6609544aDoorProof
namespace Go.Proofs.Qxb6609544aDoor
open Go

set_option maxRecDepth 100000 in
/-- THE STATEMENT: the tied card. -/
theorem proved : Rows.FnNewListsExactCardSaid :=
  Claim7.holds_tied_plain_at .later [] [.called, .zero] true (true, "530557e517d668005acbdcb70e8b7827b6231977fde6abf6170b851619305959") false
    row_holds (fun _ h => by cases h) (by kernel_rfl) (fun _ h => by cases h) fnNewListsExact_row_tie rfl ⟨rfl, rfl⟩ (by kernel_rfl) rfl
    (fun f fn hf hfn => by
      obtain rfl : f = 3 := Option.some.inj ((show Tryd.prog.funcNamed "example.com/tidewall/tidewall/zzlaws_pkg_iplist_b1.FnNewListsExact" = some 3 by kernel_rfl).symm.trans hf) |>.symm
      obtain rfl : fn = Tryd.f3 := (Option.some.inj (Tryd.func3.symm.trans hfn)).symm
      exact ⟨by kernel_rfl, fun j t ht => by
        rw [Tryd.params3] at ht
        have h22 : t = 22 := by
          rcases j with _ | _ | j
          · simpa using ht.symm
          · simpa using ht.symm
          · simp at ht
        subst h22
        exact (show Tryd.prog.wantsStandIn 22 = false by kernel_rfl)⟩)
    (by kernel_rfl)
end Go.Proofs.Qxb6609544aDoor
