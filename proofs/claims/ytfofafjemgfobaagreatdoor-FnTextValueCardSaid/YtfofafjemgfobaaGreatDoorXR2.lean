/- A part of a proof. -/
import Derived.Test.YtfofafjemgfobaaGreatDoorX8
import Derived.Test.YtfofafjemgfobaaGreatDoorX10
import Derived.Test.YtfofafjemgfobaaGreatDoorRows
import Derived.Lib.LaidU8
set_option linter.unusedVariables false
namespace Go.Proofs.Tryz
open Go.Vc Go.RowKit Go.Lib
open Go.Proofs.YtfofafjemgfobaaGreatDoor (Rows.laid_internal_strconv_uint64pow10 Rows.laid_internal_strconv_pow10Tab Rows.laid_unicode_utf8_first Rows.laid_unicode_utf8_acceptRanges Rows.laid_pub_gunnysack_pub_bson_htmlSafeSet Rows.laid_pub_gunnysack_pub_bson_safeSet)
theorem d_pow : (Rows.laid_internal_strconv_uint64pow10 : DataW Unit) = tabData .u64 Lib.pow10Tab := by kernel_rfl
theorem d_ten : Rows.laid_internal_strconv_pow10Tab = .agg ((List.range 696).map fun i => .agg ([tenHi i, tenLo i].map fun z => .lit (.int .u64 z))) := by kernel_rfl
theorem d_first : Rows.laid_unicode_utf8_first = firstData := by kernel_rfl
theorem d_accept : (Rows.laid_unicode_utf8_acceptRanges : DataW Unit) = acceptData := by kernel_rfl
theorem pairs_of_reads {n : String} {g t e N : Nat} {k : IntKind} {lo hi : Nat → Int} {w : World} (hg : prog.globalNamed n = some g) (hty : (prog.globals[g]?).map (·.type) = some t) (ht : prog.underlying t = some (.array N e)) {f0 f1 : Field} (he : prog.underlying e = some (.struct #[f0, f1]))
    (h0 : prog.underlying f0.type = some (.int k) ∧ f0.offset = 0 ∧ prog.cellsOf f0.type = 1) (h1 : prog.underlying f1.type = some (.int k) ∧ f1.offset = 1 ∧ prog.cellsOf f1.type = 1) (hc : prog.cellsOf e = 2)
    (h : VarReads prog w n (.agg ((List.range N).map fun i => .agg ([lo i, hi i].map fun z => .lit (.int k z))))) :
    ∀ i, i < N → w.cell? ⟨g, 2 * i, none⟩ = some (.int k (lo i)) ∧ w.cell? ⟨g, 2 * i + 1, none⟩ = some (.int k (hi i)) := by
  intro i hi'
  obtain ⟨g', t', cs, fuel, p, hg', hty', hvar, hd⟩ := h
  obtain rfl := Option.some.inj (hg.symm.trans hg')
  obtain rfl := Option.some.inj (hty.symm.trans hty')
  obtain ⟨fuel', d, q, hdi, he'⟩ := array_elem ht hd i hi'
  rw [List.getElem?_map, List.getElem?_range hi', Option.map_some, Option.some.injEq] at hdi
  subst hdi
  rw [hc] at he'
  have hcs := ints_of_struct he (fun j f hj => by
    match j, hj with
    | 0, hj => simp at hj; subst hj; exact h0
    | 1, hj => simp at hj; subst hj; exact h1
    | j + 2, hj => simp at hj) (by rw [hc]; rfl) he'
  have e0 := congrArg (·[0]?) hcs
  have e1 := congrArg (·[1]?) hcs
  simp only [List.getElem?_take, List.getElem?_drop] at e0 e1
  constructor
  · rw [World.var?_cell hg hvar (2 * i), ← Array.getElem?_toList]
    simpa [Nat.mul_comm] using e0
  · rw [World.var?_cell hg hvar (2 * i + 1), ← Array.getElem?_toList]
    simpa [Nat.mul_comm] using e1
theorem bools_of_reads {n : String} {g t e N : Nat} {b : Nat → Bool} {w : World} (hg : prog.globalNamed n = some g) (hty : (prog.globals[g]?).map (·.type) = some t) (ht : prog.underlying t = some (.array N e)) (he : prog.underlying e = some .bool) (hc : prog.cellsOf e = 1)
    (h : VarReads prog w n (.agg ((List.range N).map fun i => .lit (.bool (b i))))) : ∀ i, i < N → w.cell? ⟨g, i, none⟩ = some (.bool (b i)) := by
  intro i hi'
  obtain ⟨g', t', cs, fuel, p, hg', hty', hvar, hd⟩ := h
  obtain rfl := Option.some.inj (hg.symm.trans hg')
  obtain rfl := Option.some.inj (hty.symm.trans hty')
  obtain ⟨fuel', d, q, hdi, he'⟩ := array_elem ht hd i hi'
  rw [List.getElem?_map, List.getElem?_range hi', Option.map_some, Option.some.injEq] at hdi
  subst hdi
  rw [hc, Nat.mul_one] at he'
  obtain ⟨b', hb, hx⟩ := DataW.trod_bool he he'
  have e : b i = b' := by
    have := congrArg Prod.fst hx
    simpa using this
  have e0 := congrArg (·[0]?) hb
  simp only [List.getElem?_take, List.getElem?_drop] at e0
  rw [World.var?_cell hg hvar i, ← Array.getElem?_toList, e]
  simpa using e0
theorem flds350 : ∃ f0 f1 : Field, prog.underlying 350 = some (.struct #[f0, f1]) ∧ (prog.underlying f0.type = some (.int .u64) ∧ f0.offset = 0 ∧ prog.cellsOf f0.type = 1) ∧ (prog.underlying f1.type = some (.int .u64) ∧ f1.offset = 1 ∧ prog.cellsOf f1.type = 1) :=
  ⟨match t349.desc with | .struct fs => fs.getD 0 default | _ => default, match t349.desc with | .struct fs => fs.getD 1 default | _ => default, by kernel_rfl, ⟨by kernel_rfl, by kernel_rfl, by kernel_rfl⟩, ⟨by kernel_rfl, by kernel_rfl, by kernel_rfl⟩⟩
theorem flds309 : ∃ f0 f1 : Field, prog.underlying 309 = some (.struct #[f0, f1]) ∧ (prog.underlying f0.type = some (.int .u8) ∧ f0.offset = 0 ∧ prog.cellsOf f0.type = 1) ∧ (prog.underlying f1.type = some (.int .u8) ∧ f1.offset = 1 ∧ prog.cellsOf f1.type = 1) :=
  ⟨match t308.desc with | .struct fs => fs.getD 0 default | _ => default, match t308.desc with | .struct fs => fs.getD 1 default | _ => default, by kernel_rfl, ⟨by kernel_rfl, by kernel_rfl, by kernel_rfl⟩, ⟨by kernel_rfl, by kernel_rfl, by kernel_rfl⟩⟩
theorem pow_of_reads {w : World} (h : VarReads prog w "internal/strconv.uint64pow10" Rows.laid_internal_strconv_uint64pow10) : Pow w := by
  rw [d_pow] at h
  obtain ⟨g, t, cs, fuel, p, hg, hty, hvar, hd⟩ := h
  obtain rfl := Option.some.inj ((show prog.globalNamed "internal/strconv.uint64pow10" = some 4 by kernel_rfl).symm.trans hg)
  obtain rfl := Option.some.inj ((show (prog.globals[4]?).map (·.type) = some 244 by kernel_rfl).symm.trans hty)
  unfold Pow TabIs
  rw [hvar, ← cells_of_tab (show prog.underlying 244 = some (.array 20 22) by kernel_rfl) (show prog.underlying 22 = some (.int .u64) by kernel_rfl) (by kernel_rfl) (by kernel_rfl) hd]
theorem cell_lt_size {w : World} {a : Addr} {v : Value} (h : w.cell? a = some v) : a.block < w.heap.size := by
  cases hb : w.heap[a.block]? with
  | none => unfold World.cell? at h; rw [hb] at h; cases h
  | some o => exact (Array.getElem?_eq_some_iff.1 hb).1
theorem tabs_of_reads {w : World} (h1 : VarReads prog w "internal/strconv.uint64pow10" Rows.laid_internal_strconv_uint64pow10) (h2 : VarReads prog w "internal/strconv.pow10Tab" Rows.laid_internal_strconv_pow10Tab) : Tabs w := by
  obtain ⟨f0, f1, hu, q0, q1⟩ := flds350
  rw [d_ten] at h2
  have ht := pairs_of_reads (g := 15) (t := 351) (e := 350) (by kernel_rfl) (by kernel_rfl) (by kernel_rfl) hu q0 q1 (by kernel_rfl) h2
  exact ⟨pow_of_reads h1, cell_lt_size (ht 0 (by decide)).1, ht⟩
end Go.Proofs.Tryz
