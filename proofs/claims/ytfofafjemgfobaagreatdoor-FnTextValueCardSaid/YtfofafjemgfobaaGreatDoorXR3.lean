/- A part of a proof. -/
import Derived.Test.YtfofafjemgfobaaGreatDoorXR2
import Derived.LaidMore
import Derived.LaidHandle
import Derived.LaidLaws
set_option linter.unusedVariables false
namespace Go.Proofs.Tryz
open Go.Vc Go.RowKit Go.Lib
open Go.Proofs.YtfofafjemgfobaaGreatDoor (Rows.fnExtCanonicalRow)
def grp : List MemPlace → List (Nat × Nat) → List (Nat × Nat)
  | [], acc => acc.reverse
  | .cell b o :: r, (b', n) :: acc => if b = b' ∧ o = n then grp r ((b', n + 1) :: acc) else grp r ((b, 1) :: (b', n) :: acc)
  | .cell b o :: r, [] => grp r [(b, 1)]
  | .map b :: r, acc => grp r acc
def grpRow (r : Nat × Nat) : List MemPlace := MemPlace.row ⟨r.1, 0, none⟩ r.2
def fastNodup (ps : List MemPlace) : Bool := decide (ps = (grp ps []).flatMap grpRow) && decide (((grp ps []).map (·.1)).Nodup)
theorem nodup_rows : ∀ (rs : List (Nat × Nat)), (rs.map (·.1)).Nodup → (rs.flatMap grpRow).Nodup
  | [], _ => by simp
  | (b, n) :: rs, h => by
    rw [List.map_cons, List.nodup_cons] at h
    rw [List.flatMap_cons, List.nodup_append]
    refine ⟨?_, nodup_rows rs h.2, ?_⟩
    · unfold grpRow MemPlace.row
      refine List.Pairwise.map _ ?_ List.nodup_range
      intro i j hij he
      simp only [MemPlace.cell.injEq] at he
      omega
    · intro p hp q hq e
      subst e
      unfold grpRow MemPlace.row at hp
      obtain ⟨i, _, rfl⟩ := List.mem_map.1 hp
      obtain ⟨r, hr, hm⟩ := List.mem_flatMap.1 hq
      unfold grpRow MemPlace.row at hm
      obtain ⟨j, _, he⟩ := List.mem_map.1 hm
      simp only [MemPlace.cell.injEq] at he
      exact h.1 (List.mem_map.2 ⟨r, hr, he.1⟩)
theorem nodup_fast {ps : List MemPlace} (h : fastNodup ps = true) : ps.Nodup := by
  unfold fastNodup at h
  simp only [Bool.and_eq_true, decide_eq_true_eq] at h
  rw [h.1]
  exact nodup_rows _ h.2
theorem LaidVars_append {P : Program} {w : World} : ∀ {l1 l2 : List (String × DataW Unit)} {p1 p2 : List MemPlace}, DataW.LaidVars P w l1 p1 → DataW.LaidVars P w l2 p2 → DataW.LaidVars P w (l1 ++ l2) (p1 ++ p2)
  | [], l2, p1, p2, h1, h2 => by
    have : p1 = [] := h1
    rw [this]; exact h2
  | (n, d) :: r, l2, p1, p2, ⟨g, t, cs, fuel, p, q, a1, a2, a3, a4, a5, e⟩, h2 => ⟨g, t, cs, fuel, p, q ++ p2, a1, a2, a3, a4, LaidVars_append a5 h2, by rw [e]; simp [List.append_assoc]⟩
theorem mapM_some_of {α β : Type} {f : α → Option β} {g : α → β} : ∀ (l : List α), (∀ a ∈ l, f a = some (g a)) → l.mapM f = some (l.map g)
  | [], _ => rfl
  | a :: l, h => by
    rw [List.mapM_cons, h a (by simp), mapM_some_of l fun b hb => h b (by simp [hb])]
    rfl
section
variable {w : World}
theorem trod_array_mk {t e N c m : Nat} {cs : List Value} {g : Nat → DataW Unit} (ht : prog.underlying t = some (.array N e)) (hc : prog.cellsOf e = c) (hct : cs.length = prog.cellsOf t)
    (h : ∀ i, i < N → DataW.trod (fun _ => ()) prog w 0 (fun _ => true) false m e ((cs.drop (i * c)).take c) = some (g i, [])) :
    DataW.trod (fun _ => ()) prog w 0 (fun _ => true) false (m + 1) t cs = some (.agg ((List.range N).map g), []) := by
  simp only [DataW.trod, ht, hc]
  rw [if_pos hct, mapM_some_of (g := fun i => (g i, [])) (List.range N) fun i hi => h i (List.mem_range.1 hi)]
  simp [List.map_map, Function.comp_def]
theorem trod_int_one {t m : Nat} {k : IntKind} {z : Int} (ht : prog.underlying t = some (.int k)) (hz : (Lit.int k z).wf = true) : DataW.trod (fun _ => ()) prog w 0 (fun _ => true) false (m + 1) t [.int k z] = some (.lit (.int k z), []) := by
  simp [DataW.trod, ht, hz]
theorem trod_pair' {e n : Nat} {x y : Value} {d0 d1 : DataW Unit} {f0 f1 : Field} (he : prog.underlying e = some (.struct #[f0, f1])) (h0 : f0.offset = 0 ∧ prog.cellsOf f0.type = 1) (h1 : f1.offset = 1 ∧ prog.cellsOf f1.type = 1) (hc : prog.cellsOf e = 2)
    (a0 : DataW.trod (fun _ => ()) prog w 0 (fun _ => true) false n f0.type [x] = some (d0, [])) (a1 : DataW.trod (fun _ => ()) prog w 0 (fun _ => true) false n f1.type [y] = some (d1, [])) :
    DataW.trod (fun _ => ()) prog w 0 (fun _ => true) false (n + 1) e [x, y] = some (.agg [d0, d1], []) := by
  simp only [DataW.trod, he, hc]
  rw [if_pos (by rfl)]
  simp [h0.1, h0.2, h1.1, h1.2, a0, a1]
theorem trod_pair {e m : Nat} {k : IntKind} {x y : Int} {f0 f1 : Field} (he : prog.underlying e = some (.struct #[f0, f1]))
    (h0 : prog.underlying f0.type = some (.int k) ∧ f0.offset = 0 ∧ prog.cellsOf f0.type = 1) (h1 : prog.underlying f1.type = some (.int k) ∧ f1.offset = 1 ∧ prog.cellsOf f1.type = 1) (hc : prog.cellsOf e = 2) (hx : (Lit.int k x).wf = true) (hy : (Lit.int k y).wf = true) :
    DataW.trod (fun _ => ()) prog w 0 (fun _ => true) false (m + 2) e [.int k x, .int k y] = some (.agg [.lit (.int k x), .lit (.int k y)], []) := by
  exact trod_pair' he h0.2 h1.2 hc (trod_int_one (w := w) (m := m) h0.1 hx) (trod_int_one (w := w) (m := m) h1.1 hy)
end
def intCells (k : IntKind) (zs : List Int) : Array Value := (zs.map fun z => Value.int k z).toArray
def tenZ : List Int := Pinned.pow10Rows.flatMap fun x => [(x.1 : Int), (x.2 : Int)]
def tenCells : Array Value := intCells .u64 tenZ
def firstCells : Array Value := intCells .u8 firstTab
def cheatCells : Array Value := (Pinned.cheatRows.flatMap fun x => [Value.int .i64 (x.1 : Int), Value.string (mkS x.2)]).toArray
theorem flat_pair {α β : Type} (f g : α → β) : ∀ (l : List α) (i : Nat), (l.flatMap fun x => [f x, g x])[2 * i]? = l[i]?.map f ∧ (l.flatMap fun x => [f x, g x])[2 * i + 1]? = l[i]?.map g
  | [], i => by simp
  | a :: l, 0 => by simp
  | a :: l, i + 1 => by
    have := flat_pair f g l i
    have e : 2 * (i + 1) = 2 * i + 1 + 1 := by omega
    rw [e]
    simpa using this
set_option maxRecDepth 100000 in
theorem tenZ_len : tenZ.length = 1392 := by kernel_rfl
set_option maxRecDepth 100000 in
theorem tenZ_wf : (tenZ.all fun z => (Lit.int .u64 z).wf) = true := by kernel_rfl
set_option maxRecDepth 100000 in
theorem rows_len : Pinned.pow10Rows.length = 696 := by kernel_rfl
set_option maxRecDepth 100000 in
theorem firstTab_wf : (firstTab.all fun z => (Lit.int .u8 z).wf) = true := by kernel_rfl
set_option maxRecDepth 100000 in
theorem firstTab_len : firstTab.length = 256 := by kernel_rfl
theorem take_two {α : Type} {l : List α} {i : Nat} {a b : α} (h0 : l[i]? = some a) (h1 : l[i + 1]? = some b) : (l.drop i).take 2 = [a, b] := by
  have hlt := (List.getElem?_eq_some_iff.1 h1).1
  rw [List.drop_eq_getElem_cons (by omega), List.drop_eq_getElem_cons hlt]
  rw [List.getElem?_eq_getElem (by omega)] at h0
  rw [List.getElem?_eq_getElem hlt] at h1
  simp only [List.take_succ_cons, List.take_zero]
  rw [Option.some.inj h0, Option.some.inj h1]
theorem take_one {α : Type} {l : List α} {i : Nat} {a : α} (h0 : l[i]? = some a) : (l.drop i).take 1 = [a] := by
  have hlt := (List.getElem?_eq_some_iff.1 h0).1
  rw [List.drop_eq_getElem_cons hlt]
  rw [List.getElem?_eq_getElem hlt] at h0
  simp only [List.take_succ_cons, List.take_zero]
  rw [Option.some.inj h0]
theorem ten_trod (w : World) : DataW.trod (fun _ => ()) prog w 0 (fun _ => true) false 3 351 tenCells.toList = some (Pinned.pow10Tab, []) := by
  obtain ⟨f0, f1, hu, q0, q1⟩ := flds350
  have e : Pinned.pow10Tab = _ := d_ten
  rw [e]
  have hl : tenCells.toList = tenZ.map fun z => Value.int .u64 z := rfl
  rw [hl]
  refine trod_array_mk (c := 2) (e := 350) (by kernel_rfl) (by kernel_rfl) (by rw [List.length_map, tenZ_len]; kernel_rfl) fun i hi => ?_
  have hi' : i < Pinned.pow10Rows.length := by rw [rows_len]; exact hi
  have hp := flat_pair (fun x : Nat × Nat => (x.1 : Int)) (fun x : Nat × Nat => (x.2 : Int)) Pinned.pow10Rows i
  have a0 : tenZ[2 * i]? = some (tenHi i) := by
    refine hp.1.trans ?_
    unfold tenHi
    rw [List.getElem?_eq_getElem hi']; rfl
  have a1 : tenZ[2 * i + 1]? = some (tenLo i) := by
    refine hp.2.trans ?_
    unfold tenLo
    rw [List.getElem?_eq_getElem hi']; rfl
  have wf : ∀ z ∈ tenZ, (Lit.int .u64 z).wf = true := List.all_eq_true.1 tenZ_wf
  rw [Nat.mul_comm, take_two (a := Value.int .u64 (tenHi i)) (b := Value.int .u64 (tenLo i)) (by rw [List.getElem?_map, a0]; rfl) (by rw [List.getElem?_map, a1]; rfl)]
  exact trod_pair hu q0 q1 (by kernel_rfl) (wf _ (List.mem_of_getElem? a0)) (wf _ (List.mem_of_getElem? a1))
theorem first_trod (w : World) : DataW.trod (fun _ => ()) prog w 0 (fun _ => true) false 3 281 firstCells.toList = some (Pinned.utf8First, []) := by
  have e : Pinned.utf8First = firstData := d_first
  have e2 : firstData = .agg ((List.range 256).map fun i => .lit (.int .u8 (firstT i : Int))) := by
    unfold firstData tabData firstTab
    rw [List.map_map]; rfl
  rw [e, e2]
  have hl : firstCells.toList = firstTab.map fun z => Value.int .u8 z := rfl
  rw [hl]
  refine trod_array_mk (c := 1) (e := 5) (by kernel_rfl) (by kernel_rfl) (by rw [List.length_map, firstTab_len]; kernel_rfl) fun i hi => ?_
  have a0 : firstTab[i]? = some (firstT i : Int) := by
    unfold firstTab
    rw [List.getElem?_map, List.getElem?_range hi]; rfl
  have wf : ∀ z ∈ firstTab, (Lit.int .u8 z).wf = true := List.all_eq_true.1 firstTab_wf
  rw [Nat.mul_one, take_one (a := Value.int .u8 (firstT i : Int)) (by rw [List.getElem?_map, a0]; rfl)]
  exact trod_int_one (by kernel_rfl) (wf _ (List.mem_of_getElem? a0))
end Go.Proofs.Tryz
