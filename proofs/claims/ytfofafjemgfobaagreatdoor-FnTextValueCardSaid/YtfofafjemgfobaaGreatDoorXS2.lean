/- A part of a proof. -/
import Derived.Test.YtfofafjemgfobaaGreatDoorXR2
import Derived.Test.YtfofafjemgfobaaGreatDoorX26
set_option linter.unusedVariables false
namespace Go.Proofs.Tryz
open Go.Vc Go.RowKit Go.Lib
open Go.Proofs.YtfofafjemgfobaaGreatDoor (Rows.laid_internal_strconv_uint64pow10 Rows.laid_internal_strconv_pow10Tab Rows.laid_unicode_utf8_first Rows.laid_unicode_utf8_acceptRanges Rows.laid_pub_gunnysack_pub_bsoncore_htmlSafeSet)
theorem d_htmlB : (Rows.laid_pub_gunnysack_pub_bsoncore_htmlSafeSet : DataW Unit) = .agg ((List.range 128).map fun i => .lit (.bool (htmlB i))) := by kernel_rfl
theorem pre_of_reads {w : World} (h1 : VarReads prog w "internal/strconv.uint64pow10" Rows.laid_internal_strconv_uint64pow10) (h2 : VarReads prog w "internal/strconv.pow10Tab" Rows.laid_internal_strconv_pow10Tab)
    (h3 : VarReads prog w "pub-gunnysack/pub/bsoncore.htmlSafeSet" Rows.laid_pub_gunnysack_pub_bsoncore_htmlSafeSet)
    (h4 : VarReads prog w "unicode/utf8.first" Rows.laid_unicode_utf8_first) (h5 : VarReads prog w "unicode/utf8.acceptRanges" Rows.laid_unicode_utf8_acceptRanges) : Pre w := by
  refine ⟨tabs_of_reads h1 h2, ?_⟩
  rw [d_htmlB] at h3
  rw [d_first] at h4
  rw [d_accept] at h5
  refine ⟨bools_of_reads (g := 2) (t := 199) (e := 4) (by kernel_rfl) (by kernel_rfl) (by kernel_rfl) (by kernel_rfl) (by kernel_rfl) h3, fun c hc => ?_, ?_⟩
  · obtain ⟨g, t, cs, fuel, p, hg, hty, hvar, hd⟩ := h4
    obtain rfl := Option.some.inj ((show prog.globalNamed "unicode/utf8.first" = some 10 by kernel_rfl).symm.trans hg)
    obtain rfl := Option.some.inj ((show (prog.globals[10]?).map (·.type) = some 281 by kernel_rfl).symm.trans hty)
    have hcs := cells_of_tab (show prog.underlying 281 = some (.array 256 5) by kernel_rfl) (show prog.underlying 5 = some (.int .u8) by kernel_rfl) (by kernel_rfl) (by kernel_rfl) hd
    rw [World.var?_cell hg hvar c, ← Array.getElem?_toList, hcs]
    simp [firstTab, hc]
  · obtain ⟨f0, f1, hu, q0, q1⟩ := flds309
    exact pairs_of_reads (g := 11) (t := 310) (e := 309) (lo := fun i => (accLo i : Int)) (hi := fun i => (accHi i : Int)) (by kernel_rfl) (by kernel_rfl) (by kernel_rfl) hu q0 q1 (by kernel_rfl) h5
end Go.Proofs.Tryz
