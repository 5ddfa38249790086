/- The law FnTextValue returns true for every input that its row lets in (the listed package-level variables hold what the program's text lays): the row's statement, and its tied card. -/
import Derived.Test.YtfofafjemgfobaaGreatDoorX34
import Derived.Test.YtfofafjemgfobaaGreatDoorXS6v
import Derived.Test.YtfofafjemgfobaaGreatDoorTie
import Derived.Test.YtfofafjemgfobaaGreatDoorCards
import Derived.SevenTiedAt
set_option maxRecDepth 100000
namespace Go.Proofs.YtfofafjemgfobaaGreatDoor
open Go
theorem fnTextValue_named : Tryz.prog.funcNamed "pub-gunnysack/laws.FnTextValue" = some 5 := by kernel_rfl
theorem fnTextValue_instance : Tryz.f5.isInstance Tryz.prog Rows.fnTextValueRow.origin Rows.fnTextValueRow.targs := of_decide_eq_true (by kernel_rfl)
theorem fnTextValue_wrapper : Tryz.f5.isWrapper Tryz.prog Rows.fnTextValueRow.wrapper Rows.fnTextValueRow.mainSum := by unfold Func.isWrapper; rw [if_neg (of_decide_eq_false (by kernel_rfl))]; exact ⟨rfl, rfl⟩
theorem fnTextValue_said : Rows.FnTextValueSaid :=
  OpenClaim.holds_of_wide 5 Tryz.f5 rfl rfl rfl rfl rfl rfl rfl ⟨rfl, rfl, rfl, rfl, rfl⟩ rfl rfl rfl rfl rfl fnTextValue_named Tryz.func5 fnTextValue_facts fnTextValue_instance fnTextValue_wrapper
    (fun os started H enc _ => Tryz.law_lifted_v os started H enc)
theorem fnTextValue_stands (f : FuncId) (fn : Func) (hf : Tryz.prog.funcNamed "pub-gunnysack/laws.FnTextValue" = some f) (hfn : Tryz.prog.funcs[f]? = some fn) : f = 5 ∧ fn = Tryz.f5 := by
  obtain rfl : f = 5 := Option.some.inj (fnTextValue_named.symm.trans hf) |>.symm
  exact ⟨rfl, (Option.some.inj (Tryz.func5.symm.trans hfn)).symm⟩
theorem fnTextValue_holds : Rows.FnTextValueCardSaid :=
  Claim7.holds_tied_plain_at .later [] [.data, .data, .data, .data, .data, .sentinel, .data, .data, .pinned, .pinned, .pinned] true (true, "2dfdca022ddedeb87d9f23a936e76c9078c6de078b8fb0f421be03357b11262e") false
    fnTextValue_said (fun _ h => by cases h) (by kernel_rfl) (fun _ h => by cases h) fnTextValue_row_tie rfl ⟨rfl, rfl⟩ (by kernel_rfl) rfl
    (fun f fn hf hfn => by
      obtain ⟨rfl, rfl⟩ := fnTextValue_stands f fn hf hfn
      exact ⟨by kernel_rfl, fun j t ht => by
        rw [Tryz.f5_params] at ht
        have h3 : t = 26 ∨ t = 38 := by
          rcases j with _ | j
          · left; simpa using ht.symm
          · rcases j with _ | j
            · right; simpa using ht.symm
            · simp at ht
        rcases h3 with rfl | rfl
        · exact (show Tryz.prog.wantsStandIn 26 = false by kernel_rfl)
        · exact (show Tryz.prog.wantsStandIn 38 = false by kernel_rfl)⟩)
    (by kernel_rfl)
#print axioms fnTextValue_holds
end Go.Proofs.YtfofafjemgfobaaGreatDoor
