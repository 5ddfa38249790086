/- A part of a proof. -/
import Derived.Test.YtfofafjemgfobaaGreatDoorXS4
import Derived.Test.YtfofafjemgfobaaGreatDoorX14
import Derived.Test.YtfofafjemgfobaaGreatDoorXS2
import Derived.ChangeSame
import Derived.ChangeVars
import Derived.JoinedOf
import Derived.RowKit
import Derived.RowKitTokens
import Derived.ReadAgain
import Derived.Stop.Joined
set_option linter.unusedVariables false
set_option maxRecDepth 100000
namespace Go.Proofs.Tryz
open Go.Vc Go.RowKit Go.Lib Go.ChangeShapes Go.WideShapes
open Go.Proofs.YtfofafjemgfobaaGreatDoor
noncomputable def laidCall (os : Os) (args : Array Value) : World := (laidWorld os).forCall (fun _ _ => 0) ⟨#[], args, []⟩
theorem laidCall15 (os : Os) (args : Array Value) : (laidCall os args).heap[15]? = some (.cells tenCells 351) := by kernel_rfl
theorem laidCall10 (os : Os) (args : Array Value) : (laidCall os args).heap[10]? = some (.cells firstCells 281) := by kernel_rfl
def globalOk (P : Program) (w : World) (g : Nat) : Bool :=
  match (((begin P (fun _ _ => 0) default).world.heap[g]?).bind Obj.row?) with
  | none => true
  | some (zero, t) =>
    match w.heap[g]? with
    | some (.cells cs t' frozen) => decide (t' = t) && decide (frozen = (0, 0)) && cs.size == zero.size && (!P.buildable t || Row.okRefB P w t cs)
    | _ => false
theorem globals_ok (os : Os) (args : Array Value) : ([0, 1, 2, 3, 4, 5, 6, 7, 8, 9, 11, 12, 13, 14, 16].all (globalOk prog (laidCall os args))) = true := by kernel_rfl
theorem zero15 : (((begin prog (fun _ _ => 0) default).world.heap[15]?).bind Obj.row?).map (fun x => (x.1.size, x.2)) = some (1392, 351) := by kernel_rfl
theorem zero10 : (((begin prog (fun _ _ => 0) default).world.heap[10]?).bind Obj.row?).map (fun x => (x.1.size, x.2)) = some (256, 281) := by kernel_rfl
theorem types351 : prog.cellTypes prog.depth 351 = some (List.replicate 1392 22) := by kernel_rfl
theorem types281 : prog.cellTypes prog.depth 281 = some (List.replicate 256 5) := by kernel_rfl
theorem rest_ok (os : Os) (args : Array Value) : ((laidCall os args).heap.toList.drop prog.globals.size).take ((begin prog (fun _ _ => 0) default).world.heap.size - prog.globals.size) =
      (begin prog (fun _ _ => 0) default).world.heap.toList.drop prog.globals.size := by kernel_rfl
theorem globals_size17 : prog.globals.size = 17 := by kernel_rfl
theorem int_row_ok {w : World} {t u m : Nat} {k : IntKind} {zs : List Int} (ht : prog.cellTypes prog.depth t = some (List.replicate m u)) (hu : prog.underlying u = some (.int k)) (hl : zs.length = m) (hwf : ∀ z ∈ zs, (Lit.int k z).wf = true) : Row.ok prog w .any 0 t (intCells k zs) := by
  refine ⟨_, ht, ⟨1, by simp [intCells, hl]⟩, fun i v hv => ?_⟩
  unfold intCells at hv
  simp only [List.getElem?_toArray, List.getElem?_map, Option.map_eq_some_iff] at hv
  obtain ⟨z, hz, rfl⟩ := hv
  have hi : i < m := by rw [← hl]; exact (List.getElem?_eq_some_iff.1 hz).1
  refine ⟨u, ?_, ?_⟩
  · rw [List.length_replicate, Nat.mod_eq_of_lt hi, List.getElem?_replicate, if_pos hi]
  · unfold Cell.ok
    rw [hu]
    have := hwf z (List.mem_of_getElem? hz)
    simp only [Lit.wf, Bool.and_eq_true, decide_eq_true_eq] at this
    exact ⟨rfl, this⟩
theorem shaped (os : Os) (args : Array Value) : (laidCall os args).Shaped prog := by
  have hok := globals_ok os args
  have h15 := laidCall15 os args
  have h10 := laidCall10 os args
  have hrest := rest_ok os args
  generalize laidCall os args = w at *
  refine ⟨fun g zero t hg hz => ?_, fun k h1 h2 => ?_⟩
  case refine_2 =>
    have := congrArg (·[k - prog.globals.size]?) hrest
    simp only [List.getElem?_take, List.getElem?_drop, Array.getElem?_toList] at this
    rw [if_pos (by omega), Nat.add_sub_cancel' h1] at this
    exact this
  rw [globals_size17] at hg
  by_cases e15 : g = 15
  · subst e15
    have hzz := zero15
    rw [hz] at hzz
    simp only [Option.map_some, Option.some.injEq, Prod.mk.injEq] at hzz
    obtain ⟨hs, rfl⟩ := hzz
    refine ⟨tenCells, h15, ?_, fun _ => int_row_ok types351 (by kernel_rfl) tenZ_len (List.all_eq_true.1 tenZ_wf)⟩
    rw [hs, ← tenZ_len]; simp [tenCells, intCells]
  by_cases e10 : g = 10
  · subst e10
    have hzz := zero10
    rw [hz] at hzz
    simp only [Option.map_some, Option.some.injEq, Prod.mk.injEq] at hzz
    obtain ⟨hs, rfl⟩ := hzz
    refine ⟨firstCells, h10, ?_, fun _ => int_row_ok types281 (by kernel_rfl) firstTab_len (List.all_eq_true.1 firstTab_wf)⟩
    rw [hs, ← firstTab_len]; simp [firstCells, intCells]
  have hmem : g ∈ [0, 1, 2, 3, 4, 5, 6, 7, 8, 9, 11, 12, 13, 14, 16] := by
    simp only [List.mem_cons, List.mem_nil_iff, or_false]; omega
  have := List.all_eq_true.1 hok g hmem
  unfold globalOk at this
  rw [hz] at this
  simp only at this
  split at this
  · rename_i cs t' fr hw
    simp only [Bool.and_eq_true, decide_eq_true_eq, beq_iff_eq, Bool.or_eq_true, Bool.not_eq_true'] at this
    obtain ⟨⟨⟨rfl, rfl⟩, hs⟩, hb⟩ := this
    refine ⟨cs, hw, hs, fun hbuild => ?_⟩
    rcases hb with hb | hb
    · rw [hbuild] at hb; cases hb
    · exact Row.ok_of_okRefB hb
  · cases this
theorem own_knob : ownKnob prog.godebug = none := by kernel_rfl
theorem kids_all : Kids prog (· < prog.types.size) := kids_rows (by kernel_rfl) (by kernel_rfl)
theorem slices_full : ∀ t e, t < prog.types.size → prog.underlying t = some (.slice e) → 0 < prog.cellsOf e := slices_full_of prog (by kernel_rfl)
theorem types_size382 : prog.types.size = 382 := by kernel_rfl
theorem ut4 : prog.underlying 4 = some .bool := by kernel_rfl
theorem ut38 : prog.underlying 38 = some (.int .u16) := by kernel_rfl
end Go.Proofs.Tryz
