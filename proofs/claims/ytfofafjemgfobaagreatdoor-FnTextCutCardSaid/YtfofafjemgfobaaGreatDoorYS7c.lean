/- The law FnTextCut returns true for every input that its row lets in (the listed package-level variables hold what the program's text lays): the row's statement, and its tied card. -/
import Derived.Test.YtfofafjemgfobaaGreatDoorY34
import Derived.Test.YtfofafjemgfobaaGreatDoorYS6c
import Derived.Test.YtfofafjemgfobaaGreatDoorTie
import Derived.Test.YtfofafjemgfobaaGreatDoorCards
import Derived.SevenTiedAt
set_option maxRecDepth 100000
namespace Go.Proofs.YtfofafjemgfobaaGreatDoor
open Go
theorem fnTextCut_named : Tryz.prog.funcNamed "pub-gunnysack/laws.FnTextCut" = some 4 := by kernel_rfl
theorem fnTextCut_instance : Tryz.f4.isInstance Tryz.prog Rows.fnTextCutRow.origin Rows.fnTextCutRow.targs := of_decide_eq_true (by kernel_rfl)
theorem fnTextCut_wrapper : Tryz.f4.isWrapper Tryz.prog Rows.fnTextCutRow.wrapper Rows.fnTextCutRow.mainSum := by unfold Func.isWrapper; rw [if_neg (of_decide_eq_false (by kernel_rfl))]; exact ⟨rfl, rfl⟩
theorem fnTextCut_said : Rows.FnTextCutSaid :=
  OpenClaim.holds_of_wide 4 Tryz.f4 rfl rfl rfl rfl rfl rfl rfl ⟨rfl, rfl, rfl, rfl, rfl⟩ rfl rfl rfl rfl rfl fnTextCut_named Tryz.func4 fnTextCut_facts fnTextCut_instance fnTextCut_wrapper
    (fun os started H enc _ => Tryz.law_lifted_c os started H enc)
theorem fnTextCut_stands (f : FuncId) (fn : Func) (hf : Tryz.prog.funcNamed "pub-gunnysack/laws.FnTextCut" = some f) (hfn : Tryz.prog.funcs[f]? = some fn) : f = 4 ∧ fn = Tryz.f4 := by
  obtain rfl : f = 4 := Option.some.inj (fnTextCut_named.symm.trans hf) |>.symm
  exact ⟨rfl, (Option.some.inj (Tryz.func4.symm.trans hfn)).symm⟩
theorem fnTextCut_holds : Rows.FnTextCutCardSaid :=
  Claim7.holds_tied_plain_at .later [] [.data, .data, .data, .data, .data, .sentinel, .data, .data, .pinned, .pinned, .pinned] true (true, "2dfdca022ddedeb87d9f23a936e76c9078c6de078b8fb0f421be03357b11262e") false
    fnTextCut_said (fun _ h => by cases h) (by kernel_rfl) (fun _ h => by cases h) fnTextCut_row_tie rfl ⟨rfl, rfl⟩ (by kernel_rfl) rfl
    (fun f fn hf hfn => by
      obtain ⟨rfl, rfl⟩ := fnTextCut_stands f fn hf hfn
      exact ⟨by kernel_rfl, fun j t ht => by
        rw [Tryz.f4_params] at ht
        have h3 : t = 26 ∨ t = 32 := by
          rcases j with _ | j
          · left; simpa using ht.symm
          · rcases j with _ | j
            · right; simpa using ht.symm
            · simp at ht
        rcases h3 with rfl | rfl
        · exact (show Tryz.prog.wantsStandIn 26 = false by kernel_rfl)
        · exact (show Tryz.prog.wantsStandIn 32 = false by kernel_rfl)⟩)
    (by kernel_rfl)
#print axioms fnTextCut_holds
end Go.Proofs.YtfofafjemgfobaaGreatDoor
