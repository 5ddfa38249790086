/- The law FnExtCanonical returns true for every input that its row lets in (the listed package-level variables hold what the program's text lays): the row's statement, and its tied card. -/
import Derived.Test.YtfofafjemgfobaaGreatDoorZR5
import Derived.Test.YtfofafjemgfobaaGreatDoorZR6
import Derived.Test.YtfofafjemgfobaaGreatDoorTie
import Derived.Test.YtfofafjemgfobaaGreatDoorCards
import Derived.SevenTiedAt
set_option maxRecDepth 100000
namespace Go.Proofs.YtfofafjemgfobaaGreatDoor
open Go

theorem fnExtCanonical_named : Tryz.prog.funcNamed "pub-gunnysack/laws.FnExtCanonical" = some 3 := by kernel_rfl
theorem fnExtCanonical_instance : Tryz.f3.isInstance Tryz.prog Rows.fnExtCanonicalRow.origin Rows.fnExtCanonicalRow.targs := of_decide_eq_true (by kernel_rfl)
theorem fnExtCanonical_wrapper : Tryz.f3.isWrapper Tryz.prog Rows.fnExtCanonicalRow.wrapper Rows.fnExtCanonicalRow.mainSum := by unfold Func.isWrapper; rw [if_neg (of_decide_eq_false (by kernel_rfl))]; exact ⟨rfl, rfl⟩
theorem fnExtCanonical_said : Rows.FnExtCanonicalSaid :=
  OpenClaim.holds_of_wide 3 Tryz.f3 rfl rfl rfl rfl rfl rfl rfl ⟨rfl, rfl, rfl, rfl, rfl⟩ rfl rfl rfl rfl rfl fnExtCanonical_named Tryz.func3 fnExtCanonical_facts fnExtCanonical_instance fnExtCanonical_wrapper
    (fun os started H enc _ => Tryz.law_lifted os started H enc)

theorem fnExtCanonical_stands (f : FuncId) (fn : Func) (hf : Tryz.prog.funcNamed "pub-gunnysack/laws.FnExtCanonical" = some f) (hfn : Tryz.prog.funcs[f]? = some fn) : f = 3 ∧ fn = Tryz.f3 := by
  obtain rfl : f = 3 := Option.some.inj (fnExtCanonical_named.symm.trans hf) |>.symm
  exact ⟨rfl, (Option.some.inj (Tryz.func3.symm.trans hfn)).symm⟩
theorem fnExtCanonical_holds : Rows.FnExtCanonicalCardSaid :=
  Claim7.holds_tied_plain_at .later [] [.data, .data, .data, .data, .data, .sentinel, .data, .data, .sentinel, .pinned, .pinned, .pinned] true (true, "2dfdca022ddedeb87d9f23a936e76c9078c6de078b8fb0f421be03357b11262e") false
    fnExtCanonical_said (fun _ h => by cases h) (by kernel_rfl) (fun _ h => by cases h) fnExtCanonical_row_tie rfl ⟨rfl, rfl⟩ (by kernel_rfl) rfl
    (fun f fn hf hfn => by
      obtain ⟨rfl, rfl⟩ := fnExtCanonical_stands f fn hf hfn
      exact ⟨by kernel_rfl, fun j t ht => by
        rw [Tryz.f3_params] at ht
        have h3 : t = 26 ∨ t = 4 := by
          rcases j with _ | j
          · left; simpa using ht.symm
          · rcases j with _ | j
            · right; simpa using ht.symm
            · simp at ht
        rcases h3 with rfl | rfl
        · exact (show Tryz.prog.wantsStandIn 26 = false by kernel_rfl)
        · exact (show Tryz.prog.wantsStandIn 4 = false by kernel_rfl)⟩)
    (by kernel_rfl)
#print axioms fnExtCanonical_holds
end Go.Proofs.YtfofafjemgfobaaGreatDoor
