/- The law, for every input: the row and its tied card. -/
import Derived.Test.YtfofafjemgfobaaGreatDoorZR4
import Derived.Test.YtfofafjemgfobaaGreatDoorZ19
import Derived.Test.YtfofafjemgfobaaGreatDoorZ31
import Derived.ChangeSame
import Derived.ChangeVars
import Derived.JoinedOf
import Derived.RowKit
import Derived.RowKitTokens
import Derived.ReadAgain
import Derived.Stop.Joined
set_option linter.unusedVariables false
set_option maxRecDepth 100000
namespace Go.Proofs.Tryz
open Go.Vc Go.RowKit Go.Lib Go.ChangeShapes Go.WideShapes
open Go.Proofs.YtfofafjemgfobaaGreatDoor

noncomputable def laidCall (os : Os) (args : Array Value) : World := (laidWorld os).forCall (fun _ _ => 0) ⟨#[], args, []⟩
theorem laidCall15 (os : Os) (args : Array Value) : (laidCall os args).heap[15]? = some (.cells tenCells 351) := by kernel_rfl
theorem laidCall10 (os : Os) (args : Array Value) : (laidCall os args).heap[10]? = some (.cells firstCells 281) := by kernel_rfl
/-- One variable's cells, looked at. -/
def globalOk (P : Program) (w : World) (g : Nat) : Bool :=
  match (((begin P (fun _ _ => 0) default).world.heap[g]?).bind Obj.row?) with
  | none => true
  | some (zero, t) =>
    match w.heap[g]? with
    | some (.cells cs t' frozen) => decide (t' = t) && decide (frozen = (0, 0)) && cs.size == zero.size && (!P.buildable t || Row.okRefB P w t cs)
    | _ => false
theorem globals_ok (os : Os) (args : Array Value) : ([0, 1, 2, 3, 4, 5, 6, 7, 8, 9, 11, 12, 13, 14, 16].all (globalOk prog (laidCall os args))) = true := by kernel_rfl
theorem zero15 : (((begin prog (fun _ _ => 0) default).world.heap[15]?).bind Obj.row?).map (fun x => (x.1.size, x.2)) = some (1392, 351) := by kernel_rfl
theorem zero10 : (((begin prog (fun _ _ => 0) default).world.heap[10]?).bind Obj.row?).map (fun x => (x.1.size, x.2)) = some (256, 281) := by kernel_rfl
theorem types351 : prog.cellTypes prog.depth 351 = some (List.replicate 1392 22) := by kernel_rfl
theorem types281 : prog.cellTypes prog.depth 281 = some (List.replicate 256 5) := by kernel_rfl
theorem rest_ok (os : Os) (args : Array Value) : ((laidCall os args).heap.toList.drop prog.globals.size).take ((begin prog (fun _ _ => 0) default).world.heap.size - prog.globals.size) =
      (begin prog (fun _ _ => 0) default).world.heap.toList.drop prog.globals.size := by kernel_rfl
theorem globals_size17 : prog.globals.size = 17 := by kernel_rfl
theorem int_row_ok {w : World} {t u m : Nat} {k : IntKind} {zs : List Int} (ht : prog.cellTypes prog.depth t = some (List.replicate m u)) (hu : prog.underlying u = some (.int k)) (hl : zs.length = m) (hwf : ∀ z ∈ zs, (Lit.int k z).wf = true) : Row.ok prog w .any 0 t (intCells k zs) := by
  refine ⟨_, ht, ⟨1, by simp [intCells, hl]⟩, fun i v hv => ?_⟩
  unfold intCells at hv
  simp only [List.getElem?_toArray, List.getElem?_map, Option.map_eq_some_iff] at hv
  obtain ⟨z, hz, rfl⟩ := hv
  have hi : i < m := by rw [← hl]; exact (List.getElem?_eq_some_iff.1 hz).1
  refine ⟨u, ?_, ?_⟩
  · rw [List.length_replicate, Nat.mod_eq_of_lt hi, List.getElem?_replicate, if_pos hi]
  · unfold Cell.ok
    rw [hu]
    have := hwf z (List.mem_of_getElem? hz)
    simp only [Lit.wf, Bool.and_eq_true, decide_eq_true_eq] at this
    exact ⟨rfl, this⟩
theorem shaped (os : Os) (args : Array Value) : (laidCall os args).Shaped prog := by
  have hok := globals_ok os args
  have h15 := laidCall15 os args
  have h10 := laidCall10 os args
  have hrest := rest_ok os args
  generalize laidCall os args = w at *
  refine ⟨fun g zero t hg hz => ?_, fun k h1 h2 => ?_⟩
  case refine_2 =>
    have := congrArg (·[k - prog.globals.size]?) hrest
    simp only [List.getElem?_take, List.getElem?_drop, Array.getElem?_toList] at this
    rw [if_pos (by omega), Nat.add_sub_cancel' h1] at this
    exact this
  rw [globals_size17] at hg
  by_cases e15 : g = 15
  · subst e15
    have hzz := zero15
    rw [hz] at hzz
    simp only [Option.map_some, Option.some.injEq, Prod.mk.injEq] at hzz
    obtain ⟨hs, rfl⟩ := hzz
    refine ⟨tenCells, h15, ?_, fun _ => int_row_ok types351 (by kernel_rfl) tenZ_len (List.all_eq_true.1 tenZ_wf)⟩
    rw [hs, ← tenZ_len]; simp [tenCells, intCells]
  by_cases e10 : g = 10
  · subst e10
    have hzz := zero10
    rw [hz] at hzz
    simp only [Option.map_some, Option.some.injEq, Prod.mk.injEq] at hzz
    obtain ⟨hs, rfl⟩ := hzz
    refine ⟨firstCells, h10, ?_, fun _ => int_row_ok types281 (by kernel_rfl) firstTab_len (List.all_eq_true.1 firstTab_wf)⟩
    rw [hs, ← firstTab_len]; simp [firstCells, intCells]
  have hmem : g ∈ [0, 1, 2, 3, 4, 5, 6, 7, 8, 9, 11, 12, 13, 14, 16] := by
    simp only [List.mem_cons, List.mem_nil_iff, or_false]; omega
  have := List.all_eq_true.1 hok g hmem
  unfold globalOk at this
  rw [hz] at this
  simp only at this
  split at this
  · rename_i cs t' fr hw
    simp only [Bool.and_eq_true, decide_eq_true_eq, beq_iff_eq, Bool.or_eq_true, Bool.not_eq_true'] at this
    obtain ⟨⟨⟨rfl, rfl⟩, hs⟩, hb⟩ := this
    refine ⟨cs, hw, hs, fun hbuild => ?_⟩
    rcases hb with hb | hb
    · rw [hbuild] at hb; cases hb
    · exact Row.ok_of_okRefB hb
  · cases this

theorem own_knob : ownKnob prog.godebug = none := by kernel_rfl
theorem f3_params : f3.params = #[26, 4] := by kernel_rfl
theorem kids_all : Kids prog (· < prog.types.size) := kids_rows (by kernel_rfl) (by kernel_rfl)
theorem slices_full : ∀ t e, t < prog.types.size → prog.underlying t = some (.slice e) → 0 < prog.cellsOf e := slices_full_of prog (by kernel_rfl)
theorem types_size382 : prog.types.size = 382 := by kernel_rfl
theorem ut4 : prog.underlying 4 = some .bool := by kernel_rfl
/-- The witness's arguments: the zero value, and false. -/
def zeroArgs : Array Value := #[.agg ⟨valCells (.mk 0 [] [] 0 0 0 [] []) none 0 none 0⟩, .bool false]

theorem law_lifted (os : Os) (started : os.Started) (H : Type) (enc : TypeId × Value → H) :
    ReturnsInHanded {} Go.Proofs.Tryz.checked os 3 .any (fun w args => (Rows.fnExtCanonicalSpec.pre enc prog f3 [] false w args ∧ laidMetH prog Rows.fnExtCanonicalRow.laid w) ∧ sizedMet enc prog f3 (OpenSpec.ofChange Rows.fnExtCanonicalSpec) false w args)
      (Rows.fnExtCanonicalSpec.post enc prog f3 false true false false) := by
  refine returnsInHanded_of_change_and (C := Go.Proofs.Tryz.checked) (X := fun w _ => laidMetH prog Rows.fnExtCanonicalRow.laid w) (fun _ _ _ hh h => h.of_heap hh) own_knob started (by kernel_rfl) func3
    (ChangeSpec.witness_shaped (enc := enc) (C := Go.Proofs.Tryz.checked) (os := os) (X := fun w _ => laidMetH prog Rows.fnExtCanonicalRow.laid w) false (laidWorld os) zeroArgs 8 rfl (shaped os _) (by kernel_rfl) (by kernel_rfl) (by kernel_rfl) (laid_met os _)) ?_
  intro W base args ds gs before hval0 hW _ hsz hL _
  have hL' : laidMetH prog Rows.fnExtCanonicalRow.laid W := hL
  rw [Go.MakeChecks.laidMetH_plain _ _ _ no_handles] at hL'
  have rd := fun (i : Nat) (n : String) (d : DataW Unit) (h : Rows.fnExtCanonicalRow.laid[i]? = some (n, d)) => Go.Lib.laidMet.reads hL' (List.mem_of_getElem? h)
  have T : Tabs W := tabs_of_reads (rd 3 _ _ rfl) (rd 10 _ _ rfl)
  have E : Esc W := esc_of_reads (rd 7 _ _ rfl) (rd 6 _ _ rfl) (rd 11 _ _ rfl) (rd 4 _ _ rfl)
  have hval : ∀ (j : Nat) t v, f3.params[j]? = some t → args[j]? = some v → Value.okWide prog W .any base t v := hval0
  have hW' := hW
  obtain ⟨p, q, hA0, hV0, rfl, hfz, hnd⟩ := hW
  have hA : DataW.TrodAll enc prog W 0 (fun _ => true) true f3.params.toList args.toList ds p := hA0
  have hV : DataW.TrodVars enc prog W (fun _ => true) [] gs q := hV0
  obtain ⟨rfl, rfl⟩ := trodVars_none hV
  have hwt : (DataW.weightsEach prog f3.params.toList ds).all (· ≤ reachBytes) = true := by
    have := hsz
    simp only [List.append_nil] at this
    exact this
  rw [f3_params] at hA hval hwt
  obtain ⟨v0, v1, d0, d1, p0, p1, rfl, rfl, rfl, h0, h1⟩ := trodAll_two hA
  obtain ⟨b, rfl, rfl, rfl⟩ := open_bool ut4 (hval 1 4 v1 rfl rfl) h1
  obtain ⟨fuel, hf⟩ := h0
  obtain ⟨X, bp, kp, bc, kc, hcells, hh⟩ := open_val fuel _ _ hf (fun n hn => by
    have := List.all_eq_true.1 hwt n (DataW.weights_mem_each (j := 0) (t := 26) rfl rfl n hn)
    simpa using this)
  obtain ⟨fs26, hu26, _⟩ := fields26
  obtain ⟨cs, rfl, _⟩ := okWide_struct hu26 (hval 0 26 v0 rfl rfl)
  have hcs : cs = ⟨valCells X bp bc kp kc⟩ := by
    have : cs.toList = valCells X bp bc kp kc := hcells
    rw [← this]
  subst hcs
  refine (ret3 b X bp kp bc kc W T E (fun _ => hh 12)).mono fun e W' ⟨he, hk⟩ => ?_
  subst he
  have e1 : Rows.fnExtCanonicalSpec.fn H ([d0, .lit (.bool b)] ++ []) = { results := [.lit (.bool true)], args := [d0, .lit (.bool b)] } := by simp [Rows.fnExtCanonicalSpec]
  have hold : ∀ x ∈ p0, (fun k => decide (k < W.heap.size)) x.block = true := fun x hx => by
    have := DataW.trod_lt _ _ _ _ hf x hx
    simpa using this
  have hcarry : DataW.trod enc prog W' 0 (fun k => decide (k < W.heap.size)) true fuel 26 (valCells X bp bc kp kc) = some (d0, p0) :=
    DataW.trod_respare kids_all slices_full _ _ _ _ (by show 26 < prog.types.size; rw [types_size382]; decide) (DataW.trod_carry _ _ _ _ hf fun x hx => Below.same hk (DataW.trod_lt _ _ _ _ hf x hx)) hold
  refine ⟨_, rfl, [d0, .lit (.bool b)], [], p0 ++ [] ++ [], [], p0 ++ [], [], hW', ?_, ?_, ?_, Below.frame hk _, fun h => by cases h⟩
  · rw [e1]; exact trodAll_mk1 (shut_bool ut4 true)
  · rw [e1, f3_params]; exact trodAll_mk2 ⟨fuel, hcarry⟩ (shut_bool ut4 b)
  · rw [e1]; rfl
end Go.Proofs.Tryz
