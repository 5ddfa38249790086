/- A part of a proof. -/
import Derived.Test.YtfofafjemgfobaaGreatDoorXR3
import Derived.MakeChecks
set_option linter.unusedVariables false
namespace Go.Proofs.Tryz
open Go.Vc Go.RowKit Go.Lib
open Go.Proofs.YtfofafjemgfobaaGreatDoor
def litCell : DataW Unit → List Value
  | .lit (.int k z) => [.int k z]
  | .lit (.bool b) => [.bool b]
  | _ => []
def datumCells : DataW Unit → Array Value
  | .agg ps => (ps.flatMap fun p => match p with | .agg qs => qs.flatMap litCell | p => litCell p).toArray
  | d => (litCell d).toArray
def setCells (cs : Array Value) : Obj → Obj
  | .cells _ t frozen => .cells cs t frozen
  | o => o
def tooLarge : List UInt8 := [98, 121, 116, 101, 115, 46, 66, 117, 102, 102, 101, 114, 58, 32, 116, 111, 111, 32, 108, 97, 114, 103, 101]
def kidsText : List UInt8 := [97, 110, 32, 101, 108, 101, 109, 101, 110, 116, 32, 119, 97, 115, 32, 110, 111, 116, 32, 119, 114, 105, 116, 116, 101, 110]
noncomputable def laidHeap (os : Os) : Array Obj :=
  ((((((((((((World.holding prog os ⟨#[], #[], []⟩).heap ++ #[Obj.cells #[.string (mkS tooLarge)] 267, Obj.cells #[.string (mkS kidsText)] 267, Obj.cells cheatCells 356])
    |>.modify 13 (setCells (datumCells Rows.laid_math_bits_deBruijn32tab)))
    |>.modify 14 (setCells (datumCells Rows.laid_math_bits_deBruijn64tab)))
    |>.modify 7 (setCells #[.bool true]))
    |>.modify 4 (setCells (datumCells Rows.laid_internal_strconv_uint64pow10)))
    |>.modify 11 (setCells (datumCells Rows.laid_unicode_utf8_acceptRanges)))
    |>.modify 9 (setCells #[.iface 265 (.pointer (some ⟨22, 0, none⟩))]))
    |>.modify 3 (setCells (datumCells Rows.laid_pub_gunnysack_pub_bsoncore_safeSet)))
    |>.modify 2 (setCells (datumCells Rows.laid_pub_gunnysack_pub_bsoncore_htmlSafeSet)))
    |>.modify 16 (setCells #[.slice (some ⟨24, 0, none⟩) 61 61]))
    |>.modify 15 (setCells tenCells))
    |>.modify 10 (setCells firstCells)
noncomputable def laidWorld (os : Os) : World := { World.holding prog os ⟨#[], #[], []⟩ with heap := laidHeap os }
noncomputable def laidMem (os : Os) (args : Array Value) : World := ((laidWorld os).forCall (fun _ _ => 0) ⟨#[], args, []⟩).memory
set_option maxRecDepth 100000
theorem mem15 (os : Os) (args : Array Value) : (laidMem os args).heap[15]? = some (.cells tenCells 351 (0, 0)) := by kernel_rfl
theorem mem10 (os : Os) (args : Array Value) : (laidMem os args).heap[10]? = some (.cells firstCells 281 (0, 0)) := by kernel_rfl
def small : List (String × DataW Unit) := Rows.fnTextCutRow.laid.take 9
theorem run9 (os : Os) (args : Array Value) : (DataW.laidRun prog (laidMem os args) 8 (small.map (·.1))).map (·.1) = some small := by kernel_rfl
theorem run9b (os : Os) (args : Array Value) : (DataW.laidRun prog (laidMem os args) 8 (small.map (·.1))).map (fun x => fastNodup x.2 && laidRowsB prog (laidMem os args) x.2 && x.2.all (fun p => decide (p.block ≠ 10 ∧ p.block ≠ 15))) = some true := by kernel_rfl
theorem vars15 (os : Os) (args : Array Value) : DataW.LaidVars prog (laidMem os args) [("internal/strconv.pow10Tab", Pinned.pow10Tab)] (MemPlace.row ⟨15, 0, none⟩ 1392) := by
  refine ⟨15, 351, tenCells, 3, [], [], by kernel_rfl, by kernel_rfl, by kernel_rfl, ten_trod _, rfl, ?_⟩
  have e : tenCells.size = 1392 := by
    have : tenCells.size = tenZ.length := by simp [tenCells, intCells]
    rw [this, tenZ_len]
  rw [e]; simp
theorem vars10 (os : Os) (args : Array Value) : DataW.LaidVars prog (laidMem os args) [("unicode/utf8.first", Pinned.utf8First)] (MemPlace.row ⟨10, 0, none⟩ 256) := by
  refine ⟨10, 281, firstCells, 3, [], [], by kernel_rfl, by kernel_rfl, by kernel_rfl, first_trod _, rfl, ?_⟩
  have e : firstCells.size = 256 := by
    have : firstCells.size = firstTab.length := by simp [firstCells, intCells]
    rw [this, firstTab_len]
  rw [e]; simp
theorem row_nodup (g n : Nat) : (MemPlace.row ⟨g, 0, none⟩ n).Nodup := by
  have := nodup_rows [(g, n)] (by simp)
  simpa [grpRow] using this
theorem row_block {g n : Nat} {p : MemPlace} (h : p ∈ MemPlace.row ⟨g, 0, none⟩ n) : p.block = g := by
  unfold MemPlace.row at h
  obtain ⟨i, _, rfl⟩ := List.mem_map.1 h
  rfl
theorem int_cell {w : World} {g : Nat} {k : IntKind} {zs : List Int} {t : Nat} (h : w.heap[g]? = some (.cells (intCells k zs) t (0, 0))) (off : Nat) (u : TypeId) (v : Value) : w.cell? ⟨g, off, none⟩ ≠ some (.iface u v) := by
  rw [cell_of_row w g off _ t (0, 0) h]
  intro e
  unfold intCells at e
  simp only [List.getElem?_toArray, List.getElem?_map, Option.map_eq_some_iff] at e
  obtain ⟨z, _, hz⟩ := e
  cases hz
theorem laid_split : Rows.fnTextCutRow.laid = small ++ ([("internal/strconv.pow10Tab", Pinned.pow10Tab)] ++ [("unicode/utf8.first", Pinned.utf8First)]) := by rfl
theorem laid_met0 (os : Os) (args : Array Value) : laidMet prog Rows.fnTextCutRow.laid (laidMem os args) := by
  have h1 := run9 os args
  have h2 := run9b os args
  have m15 := mem15 os args
  have m10 := mem10 os args
  have v15 := vars15 os args
  have v10 := vars10 os args
  generalize laidMem os args = w at *
  rw [laid_split]
  cases hx : DataW.laidRun prog w 8 (small.map (·.1)) with
  | none => rw [hx] at h1; cases h1
  | some x =>
    obtain ⟨l', ps⟩ := x
    rw [hx] at h1 h2
    simp only [Option.map_some, Option.some.injEq, Bool.and_eq_true] at h1 h2
    subst h1
    obtain ⟨⟨n9, r9⟩, b9⟩ := h2
    have hv := DataW.LaidVars_of_laidRun hx
    have hb : ∀ p ∈ ps, p.block ≠ 10 ∧ p.block ≠ 15 := fun p hp => of_decide_eq_true (List.all_eq_true.1 b9 p hp)
    refine ⟨ps ++ (MemPlace.row ⟨15, 0, none⟩ 1392 ++ MemPlace.row ⟨10, 0, none⟩ 256), LaidVars_append hv (LaidVars_append v15 v10), ?_, fun b off hp => ?_⟩
    · refine List.nodup_append.2 ⟨nodup_fast n9, List.nodup_append.2 ⟨row_nodup _ _, row_nodup _ _, ?_⟩, ?_⟩
      · intro p hp q hq e
        have e1 := row_block hp
        have e2 := row_block hq
        rw [e] at e1
        omega
      · intro p hp q hq e
        have e0 := hb p hp
        rw [e] at e0
        rcases List.mem_append.1 hq with hq | hq
        · have := row_block hq; omega
        · have := row_block hq; omega
    · rcases List.mem_append.1 hp with hp | hp
      · have := List.all_eq_true.1 r9 _ hp
        simp only [Bool.and_eq_true] at this
        obtain ⟨q1, q2⟩ := this
        refine ⟨?_, fun u v hc => ?_⟩
        · split at q1
          · rename_i c t hh
            exact ⟨c, t, hh⟩
          · cases q1
        · rw [hc] at q2
          exact Value.okWide_of_okWideB q2
      · rcases List.mem_append.1 hp with hp | hp
        · have e := row_block hp
          simp only [MemPlace.block] at e
          subst e
          exact ⟨⟨_, _, m15⟩, fun u v hc => absurd hc (int_cell m15 off u v)⟩
        · have e := row_block hp
          simp only [MemPlace.block] at e
          subst e
          exact ⟨⟨_, _, m10⟩, fun u v hc => absurd hc (int_cell m10 off u v)⟩
theorem no_handles : (Rows.fnTextCutRow.laid.all fun x => x.2.handleName?.isNone) = true := by kernel_rfl
theorem laid_met (os : Os) (args : Array Value) : laidMetH prog Rows.fnTextCutRow.laid (laidMem os args) := by
  rw [Go.MakeChecks.laidMetH_plain _ _ _ no_handles]
  exact laid_met0 os args
end Go.Proofs.Tryz
