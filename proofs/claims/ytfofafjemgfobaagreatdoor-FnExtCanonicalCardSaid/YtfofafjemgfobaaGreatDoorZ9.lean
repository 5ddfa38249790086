/- A part of a proof. -/
import Derived.Test.YtfofafjemgfobaaGreatDoorZ4
set_option linter.unusedVariables false
set_option maxRecDepth 100000
namespace Go.Proofs.Tryz
open Go.Vc

/- F67: bson.newExtJSONWriter -/
def VC67 (wx : Addr) (canonical : Bool) (escapeHTML : Bool) (newlines : Bool) (w : World) (R : Value → World → Prop) : Prop :=
  ∃ (x10 : Option Addr) (x10_n x10_c : Nat), ∃ w1, (Instr.makeSlice 113 (.int .i64 1) (.int .i64 5)).run prog w = .ok (.slice x10 x10_n x10_c) w1 ∧ 
  ((0 : Int) ≤ 0 ∧ 0 < (x10_n : Int)) ∧ ∃ x10a : Addr, x10 = some x10a ∧ 
  ∃ w2, (Instr.storeAt 112 (.pointer (some x10a)) (.agg ⟨[.int .i64 1]⟩)).run prog w1 = .ok () w2 ∧ 
  ∀ w3, w3 = w2.alloc (.cells ⟨[]⟩ 5) → 
  ∀ w4, w4 = w3.alloc (.cells ⟨[.iface 72 (.pointer (some wx)), .slice (some (⟨w2.heap.size, 0, none⟩)) 0 0, .slice x10 x10_n x10_c, .int .i64 0, .bool canonical, .bool escapeHTML, .bool newlines]⟩ 115) → 
  R (.pointer (some (⟨w3.heap.size, 0, none⟩))) w4
def an67 : Ann :=
  .seq (.reg (.text []))
  (.seq (.reg (.text [.p (.sh [.slice])]))
  (.seq (.reg (.text [.p .n, .p .n, .p (.sh [])]))
  (.seq (.reg (.text []))
  .leaf)))
theorem vcE67 (wx : Addr) (canonical : Bool) (escapeHTML : Bool) (newlines : Bool) (w : World) (R : Value → World → Prop) : vcFn prog f67 an67 [.iface 72 (.pointer (some wx)), .bool canonical, .bool escapeHTML, .bool newlines] w R = VC67 wx canonical escapeHTML newlines w R := by kernel_rfl
theorem c67 (wx : Addr) (canonical : Bool) (escapeHTML : Bool) (newlines : Bool) (w : World) (R : Value → World → Prop) (hvc : VC67 wx canonical escapeHTML newlines w R) : Calls prog 67 ⟨[.iface 72 (.pointer (some wx)), .bool canonical, .bool escapeHTML, .bool newlines]⟩ w fun e w' => ∃ v, e = .returned v ∧ R v w' :=
  vc_calls mixed (fn := f67) (ann := an67) (by kernel_rfl) ((vcE67 wx canonical escapeHTML newlines w R).symm ▸ hvc)

/- F39: bson.ZzExtOut -/
def VC39 (wx : Addr) (canonical : Bool) (escapeHTML : Bool) (w : World) (R : Value → World → Prop) : Prop :=
  Calls prog 67 ⟨[.iface 72 (.pointer (some wx)), .bool canonical, .bool escapeHTML, .bool true]⟩ w fun e w1 => ∃ x10 : Option Addr, e = .returned (.pointer x10) ∧ 
  R (.pointer x10) w1
def an39 : Ann :=
  .seq (.reg (.text []))
  (.seq (.reg (.text [.p .n, .p .n, .p .n, .p (.sh [.ptr])]))
  .leaf)
theorem vcE39 (wx : Addr) (canonical : Bool) (escapeHTML : Bool) (w : World) (R : Value → World → Prop) : vcFn prog f39 an39 [.iface 72 (.pointer (some wx)), .bool canonical, .bool escapeHTML] w R = VC39 wx canonical escapeHTML w R := by kernel_rfl
theorem c39 (wx : Addr) (canonical : Bool) (escapeHTML : Bool) (w : World) (R : Value → World → Prop) (hvc : VC39 wx canonical escapeHTML w R) : Calls prog 39 ⟨[.iface 72 (.pointer (some wx)), .bool canonical, .bool escapeHTML]⟩ w fun e w' => ∃ v, e = .returned v ∧ R v w' :=
  vc_calls mixed (fn := f39) (ann := an39) (by kernel_rfl) ((vcE39 wx canonical escapeHTML w R).symm ▸ hvc)

/- F124: bson.extJSONValueWriter).advanceFrame -/
def VC124 (ejvw : Addr) (w : World) (R : Value → World → Prop) : Prop :=
  ∀ Kx : World → Prop, (∀ w1,
  (∃ x59 : Int, w1.cell? (ejvw.add 3) = some (.int .i64 x59) ∧ 
    ∃ x60 : Int, IntKind.i64.wrap (x59 + 1) = x60 ∧ 
    CanStore w1 (ejvw.add 3) (.int .i64 x60) ∧ ∀ w2, w2 = w1.setCell (ejvw.add 3) (.int .i64 x60) → 
    R (.tuple ⟨[]⟩) w2) → Kx w1) →
  ∃ x7 : Int, w.drew.cell? (ejvw.add 3) = some (.int .i64 x7) ∧ 
  ∃ x8 : Int, IntKind.i64.wrap (x7 + 1) = x8 ∧ 
  ∃ (x12 : Option Addr) (x12_n x12_c : Nat), w.drew.cell? (ejvw.add 2) = some (.slice x12 x12_n x12_c) ∧ 
  (decide ((x12_n : Int) ≤ x8) = true →
  ∃ (x18 : Option Addr) (x18_n x18_c : Nat), w.drew.cell? (ejvw.add 2) = some (.slice x18 x18_n x18_c) ∧ 
    ∀ Kx_1 : World → Prop, (∀ w3,
    (∃ (x50 : Option Addr) (x50_n x50_c : Nat), w3.cell? (ejvw.add 2) = some (.slice x50 x50_n x50_c) ∧ 
      ∃ x52 : Int, IntKind.i64.wrap ((x18_n : Int) + 1) = x52 ∧ 
      ((0 : Int) ≤ x52 ∧ x52 ≤ (x50_c : Int)) ∧ 
      CanStore w3 (ejvw.add 2) (.slice x50 x52.toNat x50_c) ∧ ∀ w4, w4 = w3.setCell (ejvw.add 2) (.slice x50 x52.toNat x50_c) → 
      Kx w4) → Kx_1 w3) →
    ∃ x21 : Int, IntKind.i64.wrap ((x18_n : Int) + 1) = x21 ∧ 
    ∃ (x25 : Option Addr) (x25_n x25_c : Nat), w.drew.cell? (ejvw.add 2) = some (.slice x25 x25_n x25_c) ∧ 
    (decide ((x25_c : Int) ≤ x21) = true →
    ∃ (x31 : Option Addr) (x31_n x31_c : Nat), w.drew.cell? (ejvw.add 2) = some (.slice x31 x31_n x31_c) ∧ 
      ∃ x33 : Int, IntKind.i64.wrap (2 * (x31_c : Int)) = x33 ∧ 
      ∃ x34 : Int, IntKind.i64.wrap (x33 + 1) = x34 ∧ 
      ∃ (x35 : Option Addr) (x35_n x35_c : Nat), ∃ w5, (Instr.makeSlice 113 (.int .i64 x34) (.int .i64 x34)).run prog w.drew = .ok (.slice x35 x35_n x35_c) w5 ∧ 
      ∃ (x40 : Option Addr) (x40_n x40_c : Nat), w5.cell? (ejvw.add 2) = some (.slice x40 x40_n x40_c) ∧ 
      ∃ x41 : Int, ∃ w6, BuiltinOk prog .copy #[113, 113] 3 [false, false] [.slice x35 x35_n x35_c, .slice x40 x40_n x40_c] w5 (.int .i64 x41) w6 ∧ 
      CanStore w6 (ejvw.add 2) (.slice x35 x35_n x35_c) ∧ ∀ w7, w7 = w6.setCell (ejvw.add 2) (.slice x35 x35_n x35_c) → 
      Kx_1 w7) ∧ (decide ((x25_c : Int) ≤ x21) = false →
    Kx_1 w.drew)) ∧ (decide ((x12_n : Int) ≤ x8) = false →
  Kx w.drew)
def an124 : Ann :=
  .cut [] [0] (.seq (.reg (.loads (.take 0 (.p .n) (.take 1 (.p .n) (.take 2 (.p .n) (.take 3 (.p (.sh [.int .i64])) (.take 4 (.p .n) (.take 5 (.p .n) (.take 6 (.p .n) (.take 7 (.p .n) (.take 8 (.p (.sh [.slice])) (.take 9 (.p .n) (.take 10 (.p .n) .done)))))))))))))
  (.cond 1 2 (.seq (.reg (.text [.p .n, .p .n, .p .n, .p (.sh [.slice])]))
  (.cut [] [0, 2] (.seq (.reg (.text [.p .n, .p .n, .p .n, .p .n, .p .n, .p (.sh [.slice])]))
  (.cond 3 4 (.seq (.reg (.text [.p .n, .p .n, .p .n, .p (.sh [.slice]), .p .n, .p .n, .p .n, .p (.sh [.slice])]))
  (.seq (.reg (.text [.p .n, .p .n, .p .n, .p .n, .p (.sh [.slice]), .p (.sh [.int .i64])]))
  (.reg (.text [])))) .leaf))
  (.reg (.text [.p .n, .p .n, .p .n, .p .n, .p (.sh [.slice])])))) .leaf))
  (.reg (.text [.p .n, .p .n, .p .n, .p (.sh [.int .i64])]))
theorem vcE124 (ejvw : Addr) (w : World) (R : Value → World → Prop) : vcFn prog f124 an124 [.pointer (some ejvw)] w R = VC124 ejvw w R := by kernel_rfl
theorem c124 (ejvw : Addr) (w : World) (R : Value → World → Prop) (hvc : VC124 ejvw w R) : Calls prog 124 ⟨[.pointer (some ejvw)]⟩ w fun e w' => ∃ v, e = .returned v ∧ R v w' :=
  vc_calls mixed (fn := f124) (ann := an124) (by kernel_rfl) ((vcE124 ejvw w R).symm ▸ hvc)

/- F69: bson.extJSONValueWriter).push -/
def VC69 (ejvw : Addr) (m : Int) (w : World) (R : Value → World → Prop) : Prop :=
  Calls prog 124 ⟨[.pointer (some ejvw)]⟩ w fun e w1 => e = .returned (.tuple ⟨[]⟩) ∧ 
  ∃ f : List (Addr × Value), Kept w1 f ∧
  ∃ (x9 : Option Addr) (x9_n x9_c : Nat), ((ejvw.add 2), .slice x9 x9_n x9_c) ∈ f ∧ 
  ∃ x13 : Int, ((ejvw.add 3), .int .i64 x13) ∈ f ∧ 
  ((0 : Int) ≤ x13 ∧ x13 < (x9_n : Int)) ∧ ∃ x9a : Addr, x9 = some x9a ∧ 
  CanStore w1.drew (x9a.add (x13.toNat * 1)) (.int .i64 m) ∧ ∀ w2, w2 = w1.drew.setCell (x9a.add (x13.toNat * 1)) (.int .i64 m) → 
  R (.tuple ⟨[]⟩) w2
def an69 : Ann :=
  .seq (.reg (.text [.p .n, .p (.sh [])]))
  (.reg (.held [11] (.take 0 (.p .n) (.take 1 (.p .n) (.take 2 (.p .n) (.take 3 (.p (.sh [.slice])) (.take 4 (.p .n) (.take 5 (.p .n) (.take 6 (.p .n) (.take 7 (.p (.sh [.int .i64])) (.take 8 (.p .n) (.take 9 (.p (.sh [])) (.take 10 (.p .n) (.run 11 (.p .n) .done .done))))))))))))))
theorem vcE69 (ejvw : Addr) (m : Int) (w : World) (R : Value → World → Prop) : vcFn prog f69 an69 [.pointer (some ejvw), .int .i64 m] w R = VC69 ejvw m w R := by kernel_rfl
theorem c69 (ejvw : Addr) (m : Int) (w : World) (R : Value → World → Prop) (hvc : VC69 ejvw m w R) : Calls prog 69 ⟨[.pointer (some ejvw), .int .i64 m]⟩ w fun e w' => ∃ v, e = .returned v ∧ R v w' :=
  vc_calls mixed (fn := f69) (ann := an69) (by kernel_rfl) ((vcE69 ejvw m w R).symm ▸ hvc)

/- F68: bson.extJSONValueWriter).ensureElementValue -/
def VC68 (ejvw : Addr) (destination : Int) (callerName : List UInt8) (addmodes : Option Addr) (addmodes_n addmodes_c : Nat) (w : World) (R : Value → World → Prop) : Prop :=
  ∃ (x13 : Option Addr) (x13_n x13_c : Nat), w.drew.cell? (ejvw.add 2) = some (.slice x13 x13_n x13_c) ∧ 
  ∃ x17 : Int, w.drew.cell? (ejvw.add 3) = some (.int .i64 x17) ∧ 
  ((0 : Int) ≤ x17 ∧ x17 < (x13_n : Int)) ∧ ∃ x13a : Addr, x13 = some x13a ∧ 
  ∃ x20 : Int, w.drew.cell? (x13a.add (x17.toNat * 1)) = some (.int .i64 x20) ∧ 
  ∀ Kx : Bool → World → Prop, (∀ x32 : Bool, ∀ w1,
  ((x32 = true →
    R .nilIface w1) ∧ (x32 = false →
    ∀ w2, w2 = w1.alloc (.cells ⟨[.int .i64 5, .int .i64 4]⟩ 110) → 
      ((!((addmodes).isNone)) = true →
      ∃ (x26 : Option Addr) (x26_n x26_c : Nat), ∃ w3, BuiltinOk prog .append #[181, 181] 181 [false, false] [.slice (some (⟨w1.heap.size, 0, none⟩)) 2 2, .slice addmodes addmodes_n addmodes_c] w2 (.slice x26 x26_n x26_c) w3 ∧ 
        Calls prog 123 ⟨[.pointer (some ejvw), .int .i64 destination, .string (mkS callerName), .slice x26 x26_n x26_c]⟩ w3 fun e w4 => e = .returned .nilIface ∧ 
        R .nilIface w4) ∧ ((!((addmodes).isNone)) = false →
      Calls prog 123 ⟨[.pointer (some ejvw), .int .i64 destination, .string (mkS callerName), .slice (some (⟨w1.heap.size, 0, none⟩)) 2 2]⟩ w2 fun e w5 => e = .returned .nilIface ∧ 
        R .nilIface w5))) → Kx x32 w1) →
  (decide (x20 = 5) = true →
  Kx (decide (x20 = 5)) w.drew) ∧ (decide (x20 = 5) = false →
  Kx (decide (x20 = 4)) w.drew)
def an68 : Ann :=
  .seq (.reg (.text []))
  (.seq (.seq (.reg (.loads (.take 0 (.p .n) (.take 1 (.p .n) (.take 2 (.p .n) (.take 3 (.p (.sh [.slice])) (.take 4 (.p .n) (.take 5 (.p .n) (.take 6 (.p .n) (.take 7 (.p (.sh [.int .i64])) (.take 8 (.p (.sh [])) (.take 9 (.p .n) (.take 10 (.p (.sh [.int .i64])) .done)))))))))))))
  (.block (.cut [(32, .bool)] [0, 1, 2, 3] (.seq (.reg (.text []))
  (.cond 5 6 .leaf (.reg (.text []))))
  (.cond 1 2 .leaf (.seq (.reg (.text []))
  (.seq (.seq (.reg (.text []))
  (.cond 3 4 (.reg (.text [.p .n, .p .n, .p (.sh [.slice])])) .leaf))
  (.seq (.reg (.text [.p .n, .p .n, .p .n, .p .n, .p (.sh [.nil])]))
  .leaf)))))))
  (.seq (.reg (.text []))
  .leaf))
theorem vcE68 (ejvw : Addr) (destination : Int) (callerName : List UInt8) (addmodes : Option Addr) (addmodes_n addmodes_c : Nat) (w : World) (R : Value → World → Prop) : vcFn prog f68 an68 [.pointer (some ejvw), .int .i64 destination, .string (mkS callerName), .slice addmodes addmodes_n addmodes_c] w R = VC68 ejvw destination callerName addmodes addmodes_n addmodes_c w R := by kernel_rfl
theorem c68 (ejvw : Addr) (destination : Int) (callerName : List UInt8) (addmodes : Option Addr) (addmodes_n addmodes_c : Nat) (w : World) (R : Value → World → Prop) (hvc : VC68 ejvw destination callerName addmodes addmodes_n addmodes_c w R) : Calls prog 68 ⟨[.pointer (some ejvw), .int .i64 destination, .string (mkS callerName), .slice addmodes addmodes_n addmodes_c]⟩ w fun e w' => ∃ v, e = .returned v ∧ R v w' :=
  vc_calls mixed (fn := f68) (ann := an68) (by kernel_rfl) ((vcE68 ejvw destination callerName addmodes addmodes_n addmodes_c w R).symm ▸ hvc)

/- F132: bson.extJSONValueWriter).pop -/
def VC132 (ejvw : Addr) (w : World) (R : Value → World → Prop) : Prop :=
  ∃ (x5 : Option Addr) (x5_n x5_c : Nat), w.drew.cell? (ejvw.add 2) = some (.slice x5 x5_n x5_c) ∧ 
  ∃ x9 : Int, w.drew.cell? (ejvw.add 3) = some (.int .i64 x9) ∧ 
  ((0 : Int) ≤ x9 ∧ x9 < (x5_n : Int)) ∧ ∃ x5a : Addr, x5 = some x5a ∧ 
  ∃ x12 : Int, w.drew.cell? (x5a.add (x9.toNat * 1)) = some (.int .i64 x12) ∧ 
  ∀ Kx : Bool → World → Prop, (∀ x13 : Bool, ∀ w1,
  ((x13 = true →
    ∃ x19 : Int, w1.cell? (ejvw.add 3) = some (.int .i64 x19) ∧ 
      ∃ x20 : Int, IntKind.i64.wrap (x19 - 1) = x20 ∧ 
      CanStore w1 (ejvw.add 3) (.int .i64 x20) ∧ ∀ w2, w2 = w1.setCell (ejvw.add 3) (.int .i64 x20) → 
      R (.tuple ⟨[]⟩) w2) ∧ (x13 = false →
    ∀ Kx_1 : Bool → World → Prop, (∀ x23 : Bool, ∀ w3,
      ((x23 = true →
        ∃ x30 : Int, w3.cell? (ejvw.add 3) = some (.int .i64 x30) ∧ 
          ∃ x31 : Int, IntKind.i64.wrap (x30 - 2) = x31 ∧ 
          CanStore w3 (ejvw.add 3) (.int .i64 x31) ∧ ∀ w4, w4 = w3.setCell (ejvw.add 3) (.int .i64 x31) → 
          R (.tuple ⟨[]⟩) w4) ∧ (x23 = false →
        R (.tuple ⟨[]⟩) w3)) → Kx_1 x23 w3) →
      (decide (x12 = 2) = true →
      Kx_1 (decide (x12 = 2)) w1) ∧ (decide (x12 = 2) = false →
      (decide (x12 = 3) = true →
        Kx_1 (decide (x12 = 3)) w1) ∧ (decide (x12 = 3) = false →
        Kx_1 (decide (x12 = 6)) w1)))) → Kx x13 w1) →
  (decide (x12 = 5) = true →
  Kx (decide (x12 = 5)) w.drew) ∧ (decide (x12 = 5) = false →
  Kx (decide (x12 = 4)) w.drew)
def an132 : Ann :=
  .seq (.reg (.loads (.take 0 (.p .n) (.take 1 (.p .n) (.take 2 (.p .n) (.take 3 (.p (.sh [.slice])) (.take 4 (.p .n) (.take 5 (.p .n) (.take 6 (.p .n) (.take 7 (.p (.sh [.int .i64])) (.take 8 (.p (.sh [])) (.take 9 (.p .n) (.take 10 (.p (.sh [.int .i64])) .done)))))))))))))
  (.block (.cut [(13, .bool)] [0, 12] (.seq (.reg (.text []))
  (.cond 9 10 .leaf (.reg (.text []))))
  (.cond 1 2 (.reg (.text [.p .n, .p .n, .p .n, .p (.sh [.int .i64])])) (.cut [(23, .bool)] [0] (.seq (.reg (.text []))
  (.cond 5 6 .leaf (.seq (.reg (.text []))
  (.cond 7 8 .leaf (.reg (.text []))))))
  (.cond 3 4 (.reg (.text [.p .n, .p .n, .p .n, .p (.sh [.int .i64])])) .leaf)))))
theorem vcE132 (ejvw : Addr) (w : World) (R : Value → World → Prop) : vcFn prog f132 an132 [.pointer (some ejvw)] w R = VC132 ejvw w R := by kernel_rfl
theorem c132 (ejvw : Addr) (w : World) (R : Value → World → Prop) (hvc : VC132 ejvw w R) : Calls prog 132 ⟨[.pointer (some ejvw)]⟩ w fun e w' => ∃ v, e = .returned v ∧ R v w' :=
  vc_calls mixed (fn := f132) (ann := an132) (by kernel_rfl) ((vcE132 ejvw w R).symm ▸ hvc)

/- F40: bson.extJSONValueWriter).WriteDocument -/
def VC40 (ejvw : Addr) (w : World) (R : Value → World → Prop) : Prop :=
  ∃ (x8 : Option Addr) (x8_n x8_c : Nat), w.drew.cell? (ejvw.add 2) = some (.slice x8 x8_n x8_c) ∧ 
  ∃ x12 : Int, w.drew.cell? (ejvw.add 3) = some (.int .i64 x12) ∧ 
  ((0 : Int) ≤ x12 ∧ x12 < (x8_n : Int)) ∧ ∃ x8a : Addr, x8 = some x8a ∧ 
  ∃ x15 : Int, w.drew.cell? (x8a.add (x12.toNat * 1)) = some (.int .i64 x15) ∧ 
  (decide (x15 = 1) = true →
  ∃ (x21 : Option Addr) (x21_n x21_c : Nat), w.drew.cell? (ejvw.add 1) = some (.slice x21 x21_n x21_c) ∧ 
    ∀ w1, w1 = w.drew.alloc (.cells ⟨[.int .u8 123]⟩ 5) → 
    ∃ (x23 : Option Addr) (x23_n x23_c : Nat), ∃ w2, BuiltinOk prog .append #[23, 23] 23 [false, false] [.slice x21 x21_n x21_c, .slice (some (⟨w.drew.heap.size, 0, none⟩)) 1 1] w1 (.slice x23 x23_n x23_c) w2 ∧ 
    CanStore w2 (ejvw.add 1) (.slice x23 x23_n x23_c) ∧ ∀ w3, w3 = w2.setCell (ejvw.add 1) (.slice x23 x23_n x23_c) → 
    R (.tuple ⟨[.iface 70 (.pointer (some ejvw)), .nilIface]⟩) w3) ∧ (decide (x15 = 1) = false →
  ∀ w4, w4 = w.drew.alloc (.cells ⟨[.int .i64 1]⟩ 110) → 
    Calls prog 68 ⟨[.pointer (some ejvw), .int .i64 2, .string (mkS [87, 114, 105, 116, 101, 68, 111, 99, 117, 109, 101, 110, 116]), .slice (some (⟨w.drew.heap.size, 0, none⟩)) 1 1]⟩ w4 fun e w5 => e = .returned .nilIface ∧ 
    ∃ (x38 : Option Addr) (x38_n x38_c : Nat), w5.cell? (ejvw.add 1) = some (.slice x38 x38_n x38_c) ∧ 
    ∀ w6, w6 = w5.alloc (.cells ⟨[.int .u8 123]⟩ 5) → 
    ∃ (x40 : Option Addr) (x40_n x40_c : Nat), ∃ w7, BuiltinOk prog .append #[23, 23] 23 [false, false] [.slice x38 x38_n x38_c, .slice (some (⟨w5.heap.size, 0, none⟩)) 1 1] w6 (.slice x40 x40_n x40_c) w7 ∧ 
    CanStore w7 (ejvw.add 1) (.slice x40 x40_n x40_c) ∧ ∀ w8, w8 = w7.setCell (ejvw.add 1) (.slice x40 x40_n x40_c) → 
    Calls prog 69 ⟨[.pointer (some ejvw), .int .i64 2]⟩ w8 fun e w9 => e = .returned (.tuple ⟨[]⟩) ∧ 
    R (.tuple ⟨[.iface 70 (.pointer (some ejvw)), .nilIface]⟩) w9)
def an40 : Ann :=
  .seq (.reg (.text []))
  (.seq (.seq (.reg (.loads (.take 0 (.p .n) (.take 1 (.p .n) (.take 2 (.p .n) (.take 3 (.p (.sh [.slice])) (.take 4 (.p .n) (.take 5 (.p .n) (.take 6 (.p .n) (.take 7 (.p (.sh [.int .i64])) (.take 8 (.p (.sh [])) (.take 9 (.p .n) (.take 10 (.p (.sh [.int .i64])) (.take 11 (.p .n) .done))))))))))))))
  (.cond 1 2 (.seq (.reg (.text [.p .n, .p .n, .p .n, .p .n, .p (.sh [.slice]), .p .n, .p (.sh [.slice])]))
  (.seq (.reg (.text []))
  .leaf)) .leaf))
  (.seq (.seq (.reg (.text [.p .n, .p .n, .p (.sh [.nil])]))
  (.seq (.reg (.text []))
  (.no .leaf)))
  (.seq (.reg (.text [.p .n, .p .n, .p .n, .p .n, .p (.sh [.slice]), .p .n, .p (.sh [.slice])]))
  (.seq (.reg (.text [.p .n, .p (.sh [])]))
  (.seq (.reg (.text []))
  .leaf)))))
theorem vcE40 (ejvw : Addr) (w : World) (R : Value → World → Prop) : vcFn prog f40 an40 [.pointer (some ejvw)] w R = VC40 ejvw w R := by kernel_rfl
theorem c40 (ejvw : Addr) (w : World) (R : Value → World → Prop) (hvc : VC40 ejvw w R) : Calls prog 40 ⟨[.pointer (some ejvw)]⟩ w fun e w' => ∃ v, e = .returned v ∧ R v w' :=
  vc_calls mixed (fn := f40) (ann := an40) (by kernel_rfl) ((vcE40 ejvw w R).symm ▸ hvc)

/- F126: bson.extJSONValueWriter).WriteArray -/
def VC126 (ejvw : Addr) (w : World) (R : Value → World → Prop) : Prop :=
  Calls prog 68 ⟨[.pointer (some ejvw), .int .i64 3, .string (mkS [87, 114, 105, 116, 101, 65, 114, 114, 97, 121]), .slice none 0 0]⟩ w fun e w1 => e = .returned .nilIface ∧ 
  ∃ (x14 : Option Addr) (x14_n x14_c : Nat), w1.cell? (ejvw.add 1) = some (.slice x14 x14_n x14_c) ∧ 
  ∀ w2, w2 = w1.alloc (.cells ⟨[.int .u8 91]⟩ 5) → 
  ∃ (x16 : Option Addr) (x16_n x16_c : Nat), ∃ w3, BuiltinOk prog .append #[23, 23] 23 [false, false] [.slice x14 x14_n x14_c, .slice (some (⟨w1.heap.size, 0, none⟩)) 1 1] w2 (.slice x16 x16_n x16_c) w3 ∧ 
  CanStore w3 (ejvw.add 1) (.slice x16 x16_n x16_c) ∧ ∀ w4, w4 = w3.setCell (ejvw.add 1) (.slice x16 x16_n x16_c) → 
  Calls prog 69 ⟨[.pointer (some ejvw), .int .i64 3]⟩ w4 fun e w5 => e = .returned (.tuple ⟨[]⟩) ∧ 
  R (.tuple ⟨[.iface 70 (.pointer (some ejvw)), .nilIface]⟩) w5
def an126 : Ann :=
  .seq (.reg (.text []))
  (.seq (.seq (.reg (.text [.p .n, .p (.sh [.nil])]))
  (.seq (.reg (.text []))
  (.no .leaf)))
  (.seq (.reg (.text [.p .n, .p .n, .p .n, .p .n, .p (.sh [.slice]), .p .n, .p (.sh [.slice])]))
  (.seq (.reg (.text [.p .n, .p (.sh [])]))
  (.seq (.reg (.text []))
  .leaf))))
theorem vcE126 (ejvw : Addr) (w : World) (R : Value → World → Prop) : vcFn prog f126 an126 [.pointer (some ejvw)] w R = VC126 ejvw w R := by kernel_rfl
theorem c126 (ejvw : Addr) (w : World) (R : Value → World → Prop) (hvc : VC126 ejvw w R) : Calls prog 126 ⟨[.pointer (some ejvw)]⟩ w fun e w' => ∃ v, e = .returned v ∧ R v w' :=
  vc_calls mixed (fn := f126) (ann := an126) (by kernel_rfl) ((vcE126 ejvw w R).symm ▸ hvc)

/- F127: bson.extJSONValueWriter).WriteArrayElement -/
def VC127 (ejvw : Addr) (w : World) (R : Value → World → Prop) : Prop :=
  ∃ (x7 : Option Addr) (x7_n x7_c : Nat), w.drew.cell? (ejvw.add 2) = some (.slice x7 x7_n x7_c) ∧ 
  ∃ x11 : Int, w.drew.cell? (ejvw.add 3) = some (.int .i64 x11) ∧ 
  ((0 : Int) ≤ x11 ∧ x11 < (x7_n : Int)) ∧ ∃ x7a : Addr, x7 = some x7a ∧ 
  ∃ x14 : Int, w.drew.cell? (x7a.add (x11.toNat * 1)) = some (.int .i64 x14) ∧ 
  (decide (x14 = 3) = true →
  Calls prog 69 ⟨[.pointer (some ejvw), .int .i64 4]⟩ w.drew fun e w1 => e = .returned (.tuple ⟨[]⟩) ∧ 
    R (.tuple ⟨[.iface 70 (.pointer (some ejvw)), .nilIface]⟩) w1) ∧ (decide (x14 = 3) = false →
  ∀ w2, w2 = w.drew.alloc (.cells ⟨[.int .i64 3]⟩ 110) → 
    Calls prog 123 ⟨[.pointer (some ejvw), .int .i64 4, .string (mkS [87, 114, 105, 116, 101, 65, 114, 114, 97, 121, 69, 108, 101, 109, 101, 110, 116]), .slice (some (⟨w.drew.heap.size, 0, none⟩)) 1 1]⟩ w2 fun e w3 => e = .returned .nilIface ∧ 
    R (.tuple ⟨[.nilIface, .nilIface]⟩) w3)
def an127 : Ann :=
  .seq (.reg (.text []))
  (.seq (.seq (.reg (.loads (.take 0 (.p .n) (.take 1 (.p .n) (.take 2 (.p .n) (.take 3 (.p (.sh [.slice])) (.take 4 (.p .n) (.take 5 (.p .n) (.take 6 (.p .n) (.take 7 (.p (.sh [.int .i64])) (.take 8 (.p (.sh [])) (.take 9 (.p .n) (.take 10 (.p (.sh [.int .i64])) .done)))))))))))))
  (.block (.seq (.reg (.text []))
  (.cond 1 2 (.reg (.text [.p .n, .p (.sh [])])) (.seq (.reg (.text [.p .n, .p .n, .p (.sh [.nil])]))
  .leaf)))))
  (.seq (.reg (.text []))
  .leaf))
theorem vcE127 (ejvw : Addr) (w : World) (R : Value → World → Prop) : vcFn prog f127 an127 [.pointer (some ejvw)] w R = VC127 ejvw w R := by kernel_rfl
theorem c127 (ejvw : Addr) (w : World) (R : Value → World → Prop) (hvc : VC127 ejvw w R) : Calls prog 127 ⟨[.pointer (some ejvw)]⟩ w fun e w' => ∃ v, e = .returned v ∧ R v w' :=
  vc_calls mixed (fn := f127) (ann := an127) (by kernel_rfl) ((vcE127 ejvw w R).symm ▸ hvc)

/- F128: bson.extJSONValueWriter).WriteArrayEnd -/
def VC128 (ejvw : Addr) (w : World) (R : Value → World → Prop) : Prop :=
  ∃ (x6 : Option Addr) (x6_n x6_c : Nat), w.drew.cell? (ejvw.add 2) = some (.slice x6 x6_n x6_c) ∧ 
  ∃ x10 : Int, w.drew.cell? (ejvw.add 3) = some (.int .i64 x10) ∧ 
  ((0 : Int) ≤ x10 ∧ x10 < (x6_n : Int)) ∧ ∃ x6a : Addr, x6 = some x6a ∧ 
  ∃ x13 : Int, w.drew.cell? (x6a.add (x10.toNat * 1)) = some (.int .i64 x13) ∧ 
  (decide (x13 = 3) = true →
  ∀ Kx : World → Prop, (∀ w1,
    (∃ (x54 : Option Addr) (x54_n x54_c : Nat), w1.cell? (ejvw.add 1) = some (.slice x54 x54_n x54_c) ∧ 
      ∀ w2, w2 = w1.alloc (.cells ⟨[.int .u8 44]⟩ 5) → 
      ∃ (x56 : Option Addr) (x56_n x56_c : Nat), ∃ w3, BuiltinOk prog .append #[23, 23] 23 [false, false] [.slice x54 x54_n x54_c, .slice (some (⟨w1.heap.size, 0, none⟩)) 1 1] w2 (.slice x56 x56_n x56_c) w3 ∧ 
      CanStore w3 (ejvw.add 1) (.slice x56 x56_n x56_c) ∧ ∀ w4, w4 = w3.setCell (ejvw.add 1) (.slice x56 x56_n x56_c) → 
      Calls prog 132 ⟨[.pointer (some ejvw)]⟩ w4 fun e w5 => e = .returned (.tuple ⟨[]⟩) ∧ 
      R .nilIface w5) → Kx w1) →
    ∃ (x20 : Option Addr) (x20_n x20_c : Nat), w.drew.drew.cell? (ejvw.add 1) = some (.slice x20 x20_n x20_c) ∧ 
    ∃ (x24 : Option Addr) (x24_n x24_c : Nat), w.drew.drew.cell? (ejvw.add 1) = some (.slice x24 x24_n x24_c) ∧ 
    ∃ x26 : Int, IntKind.i64.wrap ((x24_n : Int) - 1) = x26 ∧ 
    ((0 : Int) ≤ x26 ∧ x26 < (x20_n : Int)) ∧ ∃ x20a : Addr, x20 = some x20a ∧ 
    ∃ x28 : Int, w.drew.drew.cell? (x20a.add (x26.toNat * 1)) = some (.int .u8 x28) ∧ 
    (decide (x28 = 44) = true →
    ∃ f : List (Addr × Value), Kept w.drew.drew f ∧
      ∃ (x33 : Option Addr) (x33_n x33_c : Nat), ((ejvw.add 1), .slice x33 x33_n x33_c) ∈ f ∧ 
      ∃ (x37 : Option Addr) (x37_n x37_c : Nat), ((ejvw.add 1), .slice x37 x37_n x37_c) ∈ f ∧ 
      ∃ x39 : Int, IntKind.i64.wrap ((x37_n : Int) - 1) = x39 ∧ 
      ((0 : Int) ≤ x39 ∧ x39 < (x33_n : Int)) ∧ ∃ x33a : Addr, x33 = some x33a ∧ 
      CanStore w.drew.drew.drew (x33a.add (x39.toNat * 1)) (.int .u8 93) ∧ ∀ w6, w6 = w.drew.drew.drew.setCell (x33a.add (x39.toNat * 1)) (.int .u8 93) → 
      Kx w6) ∧ (decide (x28 = 44) = false →
    ∃ (x45 : Option Addr) (x45_n x45_c : Nat), w.drew.drew.cell? (ejvw.add 1) = some (.slice x45 x45_n x45_c) ∧ 
      ∀ w7, w7 = w.drew.drew.alloc (.cells ⟨[.int .u8 93]⟩ 5) → 
      ∃ (x47 : Option Addr) (x47_n x47_c : Nat), ∃ w8, BuiltinOk prog .append #[23, 23] 23 [false, false] [.slice x45 x45_n x45_c, .slice (some (⟨w.drew.drew.heap.size, 0, none⟩)) 1 1] w7 (.slice x47 x47_n x47_c) w8 ∧ 
      CanStore w8 (ejvw.add 1) (.slice x47 x47_n x47_c) ∧ ∀ w9, w9 = w8.setCell (ejvw.add 1) (.slice x47 x47_n x47_c) → 
      Kx w9)) ∧ (decide (x13 = 3) = false →
  Calls prog 131 ⟨[.string (mkS [105, 110, 99, 111, 114, 114, 101, 99, 116, 32, 109, 111, 100, 101, 32, 116, 111, 32, 101, 110, 100, 32, 97, 114, 114, 97, 121])]⟩ w.drew fun e w10 => e = .returned .nilIface ∧ 
    R .nilIface w10)
def an128 : Ann :=
  .seq (.reg (.text []))
  (.seq (.seq (.reg (.loads (.take 0 (.p .n) (.take 1 (.p .n) (.take 2 (.p .n) (.take 3 (.p (.sh [.slice])) (.take 4 (.p .n) (.take 5 (.p .n) (.take 6 (.p .n) (.take 7 (.p (.sh [.int .i64])) (.take 8 (.p (.sh [])) (.take 9 (.p .n) (.take 10 (.p (.sh [.int .i64])) .done)))))))))))))
  (.block (.seq (.reg (.text []))
  (.cond 1 2 (.cut [] [0] (.seq (.reg (.loads (.take 0 (.p .n) (.take 1 (.p .n) (.take 2 (.p .n) (.take 3 (.p (.sh [.slice])) (.take 4 (.p .n) (.take 5 (.p .n) (.take 6 (.p .n) (.take 7 (.p (.sh [.slice])) (.take 8 (.p .n) (.take 9 (.p .n) (.take 10 (.p (.sh [])) (.take 11 (.p (.sh [.int .u8])) (.take 12 (.p .n) .done)))))))))))))))
  (.cond 3 4 (.reg (.held [11] (.take 0 (.p .n) (.take 1 (.p .n) (.take 2 (.p .n) (.take 3 (.p (.sh [.slice])) (.take 4 (.p .n) (.take 5 (.p .n) (.take 6 (.p .n) (.take 7 (.p (.sh [.slice])) (.take 8 (.p .n) (.take 9 (.p .n) (.take 10 (.p (.sh [])) (.run 11 (.p .n) .done .done)))))))))))))) (.reg (.text [.p .n, .p .n, .p .n, .p .n, .p (.sh [.slice]), .p .n, .p (.sh [.slice])]))))
  (.seq (.reg (.text [.p .n, .p .n, .p .n, .p .n, .p (.sh [.slice]), .p .n, .p (.sh [.slice])]))
  (.reg (.text [.p .n, .p (.sh [])])))) (.seq (.reg (.text [.p (.sh [.nil])]))
  .leaf)))))
  (.seq (.reg (.text []))
  .leaf))
theorem vcE128 (ejvw : Addr) (w : World) (R : Value → World → Prop) : vcFn prog f128 an128 [.pointer (some ejvw)] w R = VC128 ejvw w R := by kernel_rfl
theorem c128 (ejvw : Addr) (w : World) (R : Value → World → Prop) (hvc : VC128 ejvw w R) : Calls prog 128 ⟨[.pointer (some ejvw)]⟩ w fun e w' => ∃ v, e = .returned v ∧ R v w' :=
  vc_calls mixed (fn := f128) (ann := an128) (by kernel_rfl) ((vcE128 ejvw w R).symm ▸ hvc)

/- F72: bson.extJSONValueWriter).WriteDocumentEnd -/
def VC72 (ejvw : Addr) (w : World) (R : Value → World → Prop) : Prop :=
  ∀ Kx : World → Prop, (∀ w1,
  (∀ Kx_1 : World → Prop, (∀ w2,
    (∃ (x57 : Option Addr) (x57_n x57_c : Nat), w2.drew.cell? (ejvw.add 2) = some (.slice x57 x57_n x57_c) ∧ 
      ∃ x61 : Int, w2.drew.cell? (ejvw.add 3) = some (.int .i64 x61) ∧ 
      ((0 : Int) ≤ x61 ∧ x61 < (x57_n : Int)) ∧ ∃ x57a : Addr, x57 = some x57a ∧ 
      ∃ x64 : Int, w2.drew.cell? (x57a.add (x61.toNat * 1)) = some (.int .i64 x64) ∧ 
      ∀ Kx_2 : World → Prop, (∀ w3,
      (∃ (x84 : Option Addr) (x84_n x84_c : Nat), w3.cell? (ejvw.add 1) = some (.slice x84 x84_n x84_c) ∧ 
        ∀ w4, w4 = w3.alloc (.cells ⟨[.int .u8 44]⟩ 5) → 
        ∃ (x86 : Option Addr) (x86_n x86_c : Nat), ∃ w5, BuiltinOk prog .append #[23, 23] 23 [false, false] [.slice x84 x84_n x84_c, .slice (some (⟨w3.heap.size, 0, none⟩)) 1 1] w4 (.slice x86 x86_n x86_c) w5 ∧ 
        CanStore w5 (ejvw.add 1) (.slice x86 x86_n x86_c) ∧ ∀ w6, w6 = w5.setCell (ejvw.add 1) (.slice x86 x86_n x86_c) → 
        Calls prog 132 ⟨[.pointer (some ejvw)]⟩ w6 fun e w7 => e = .returned (.tuple ⟨[]⟩) ∧ 
        R .nilIface w7) → Kx_2 w3) →
      (decide (x64 = 6) = true →
      ∃ (x75 : Option Addr) (x75_n x75_c : Nat), w2.drew.cell? (ejvw.add 1) = some (.slice x75 x75_n x75_c) ∧ 
        ∀ w8, w8 = w2.drew.alloc (.cells ⟨[.int .u8 125]⟩ 5) → 
        ∃ (x77 : Option Addr) (x77_n x77_c : Nat), ∃ w9, BuiltinOk prog .append #[23, 23] 23 [false, false] [.slice x75 x75_n x75_c, .slice (some (⟨w2.drew.heap.size, 0, none⟩)) 1 1] w8 (.slice x77 x77_n x77_c) w9 ∧ 
        CanStore w9 (ejvw.add 1) (.slice x77 x77_n x77_c) ∧ ∀ w10, w10 = w9.setCell (ejvw.add 1) (.slice x77 x77_n x77_c) → 
        Kx_2 w10) ∧ (decide (x64 = 6) = false →
      (decide (x64 = 2) = true →
        Kx_2 w2.drew) ∧ (decide (x64 = 2) = false →
        (decide (x64 = 1) = true →
          ∀ Kx_3 : World → Prop, (∀ w11,
            (∃ x105 : Value, w11.cell? ejvw = some x105 ∧ 
              ∃ x106 : Bool, ∃ w12, ((do eqGuard .neq 108 (.tmp 105) (.const .nilIface) x105 .nilIface; binOp .neq 108 x105 .nilIface : Sem Value)).run prog w11 = .ok (.bool x106) w12 ∧ 
              (x106 = true →
              ∃ f : List (Addr × Value), Kept w12 f ∧
                ∃ x111 : Addr, (ejvw, .iface 72 (.pointer (some x111))) ∈ f ∧ 
                ∃ (x115 : Option Addr) (x115_n x115_c : Nat), ((ejvw.add 1), .slice x115 x115_n x115_c) ∈ f ∧ 
                ∃ (g : Nat) (av : Array Value), (callMethod (.iface 72 (.pointer (some x111))) "Write" ⟨[.slice x115 x115_n x115_c]⟩).run prog w12.drew = .ok (.enter g av) w12.drew ∧ Calls prog g av w12.drew fun e w13 => ∃ x118 : Int, e = .returned (.tuple ⟨[.int .i64 x118, .nilIface]⟩) ∧ 
                ∃ (x128 : Option Addr) (x128_n x128_c : Nat), w13.cell? (ejvw.add 1) = some (.slice x128 x128_n x128_c) ∧ 
                ((0 : Int) ≤ 0 ∧ 0 ≤ (x128_c : Int)) ∧ 
                CanStore w13 (ejvw.add 1) (.slice x128 0 x128_c) ∧ ∀ w14, w14 = w13.setCell (ejvw.add 1) (.slice x128 0 x128_c) → 
                Calls prog 132 ⟨[.pointer (some ejvw)]⟩ w14 fun e w15 => e = .returned (.tuple ⟨[]⟩) ∧ 
                R .nilIface w15) ∧ (x106 = false →
              Calls prog 132 ⟨[.pointer (some ejvw)]⟩ w12 fun e w16 => e = .returned (.tuple ⟨[]⟩) ∧ 
                R .nilIface w16)) → Kx_3 w11) →
            ∃ x92 : Bool, w2.drew.cell? (ejvw.add 6) = some (.bool x92) ∧ 
            (x92 = true →
            ∃ (x97 : Option Addr) (x97_n x97_c : Nat), w2.drew.cell? (ejvw.add 1) = some (.slice x97 x97_n x97_c) ∧ 
              ∀ w17, w17 = w2.drew.alloc (.cells ⟨[.int .u8 10]⟩ 5) → 
              ∃ (x99 : Option Addr) (x99_n x99_c : Nat), ∃ w18, BuiltinOk prog .append #[23, 23] 23 [false, false] [.slice x97 x97_n x97_c, .slice (some (⟨w2.drew.heap.size, 0, none⟩)) 1 1] w17 (.slice x99 x99_n x99_c) w18 ∧ 
              CanStore w18 (ejvw.add 1) (.slice x99 x99_n x99_c) ∧ ∀ w19, w19 = w18.setCell (ejvw.add 1) (.slice x99 x99_n x99_c) → 
              Kx_3 w19) ∧ (x92 = false →
            Kx_3 w2.drew)) ∧ (decide (x64 = 1) = false →
          Calls prog 132 ⟨[.pointer (some ejvw)]⟩ w2.drew fun e w20 => e = .returned (.tuple ⟨[]⟩) ∧ 
            R .nilIface w20)))) → Kx_1 w2) →
    ∃ (x24 : Option Addr) (x24_n x24_c : Nat), w1.drew.cell? (ejvw.add 1) = some (.slice x24 x24_n x24_c) ∧ 
    ∃ (x28 : Option Addr) (x28_n x28_c : Nat), w1.drew.cell? (ejvw.add 1) = some (.slice x28 x28_n x28_c) ∧ 
    ∃ x30 : Int, IntKind.i64.wrap ((x28_n : Int) - 1) = x30 ∧ 
    ((0 : Int) ≤ x30 ∧ x30 < (x24_n : Int)) ∧ ∃ x24a : Addr, x24 = some x24a ∧ 
    ∃ x32 : Int, w1.drew.cell? (x24a.add (x30.toNat * 1)) = some (.int .u8 x32) ∧ 
    (decide (x32 = 44) = true →
    ∃ f_1 : List (Addr × Value), Kept w1.drew f_1 ∧
      ∃ (x37 : Option Addr) (x37_n x37_c : Nat), ((ejvw.add 1), .slice x37 x37_n x37_c) ∈ f_1 ∧ 
      ∃ (x41 : Option Addr) (x41_n x41_c : Nat), ((ejvw.add 1), .slice x41 x41_n x41_c) ∈ f_1 ∧ 
      ∃ x43 : Int, IntKind.i64.wrap ((x41_n : Int) - 1) = x43 ∧ 
      ((0 : Int) ≤ x43 ∧ x43 < (x37_n : Int)) ∧ ∃ x37a : Addr, x37 = some x37a ∧ 
      CanStore w1.drew.drew (x37a.add (x43.toNat * 1)) (.int .u8 125) ∧ ∀ w21, w21 = w1.drew.drew.setCell (x37a.add (x43.toNat * 1)) (.int .u8 125) → 
      Kx_1 w21) ∧ (decide (x32 = 44) = false →
    ∃ (x49 : Option Addr) (x49_n x49_c : Nat), w1.drew.cell? (ejvw.add 1) = some (.slice x49 x49_n x49_c) ∧ 
      ∀ w22, w22 = w1.drew.alloc (.cells ⟨[.int .u8 125]⟩ 5) → 
      ∃ (x51 : Option Addr) (x51_n x51_c : Nat), ∃ w23, BuiltinOk prog .append #[23, 23] 23 [false, false] [.slice x49 x49_n x49_c, .slice (some (⟨w1.drew.heap.size, 0, none⟩)) 1 1] w22 (.slice x51 x51_n x51_c) w23 ∧ 
      CanStore w23 (ejvw.add 1) (.slice x51 x51_n x51_c) ∧ ∀ w24, w24 = w23.setCell (ejvw.add 1) (.slice x51 x51_n x51_c) → 
      Kx_1 w24)) → Kx w1) →
  ∃ (x8 : Option Addr) (x8_n x8_c : Nat), w.drew.cell? (ejvw.add 2) = some (.slice x8 x8_n x8_c) ∧ 
  ∃ x12 : Int, w.drew.cell? (ejvw.add 3) = some (.int .i64 x12) ∧ 
  ((0 : Int) ≤ x12 ∧ x12 < (x8_n : Int)) ∧ ∃ x8a : Addr, x8 = some x8a ∧ 
  ∃ x15 : Int, w.drew.cell? (x8a.add (x12.toNat * 1)) = some (.int .i64 x15) ∧ 
  (decide (x15 = 2) = true →
  (decide (x15 = 2) = true →
    Kx w.drew) ∧ (decide (x15 = 2) = false →
    Calls prog 131 ⟨[.string (mkS [105, 110, 99, 111, 114, 114, 101, 99, 116, 32, 109, 111, 100, 101, 32, 116, 111, 32, 101, 110, 100, 32, 100, 111, 99, 117, 109, 101, 110, 116])]⟩ w.drew fun e w25 => e = .returned .nilIface ∧ 
      R .nilIface w25)) ∧ (decide (x15 = 2) = false →
  (decide (x15 = 1) = true →
    (decide (x15 = 1) = true →
      Kx w.drew) ∧ (decide (x15 = 1) = false →
      Calls prog 131 ⟨[.string (mkS [105, 110, 99, 111, 114, 114, 101, 99, 116, 32, 109, 111, 100, 101, 32, 116, 111, 32, 101, 110, 100, 32, 100, 111, 99, 117, 109, 101, 110, 116])]⟩ w.drew fun e w26 => e = .returned .nilIface ∧ 
        R .nilIface w26)) ∧ (decide (x15 = 1) = false →
    (decide (x15 = 6) = true →
      Kx w.drew) ∧ (decide (x15 = 6) = false →
      Calls prog 131 ⟨[.string (mkS [105, 110, 99, 111, 114, 114, 101, 99, 116, 32, 109, 111, 100, 101, 32, 116, 111, 32, 101, 110, 100, 32, 100, 111, 99, 117, 109, 101, 110, 116])]⟩ w.drew fun e w27 => e = .returned .nilIface ∧ 
        R .nilIface w27)))
def an72 : Ann :=
  .seq (.reg (.text []))
  (.cut [] [0] (.seq (.reg (.loads (.take 0 (.p .n) (.take 1 (.p .n) (.take 2 (.p .n) (.take 3 (.p (.sh [.slice])) (.take 4 (.p .n) (.take 5 (.p .n) (.take 6 (.p .n) (.take 7 (.p (.sh [.int .i64])) (.take 8 (.p (.sh [])) (.take 9 (.p .n) (.take 10 (.p (.sh [.int .i64])) .done)))))))))))))
  (.block (.seq (.seq (.reg (.text []))
  (.cond 13 14 .leaf (.seq (.reg (.text []))
  (.cond 17 18 .leaf (.reg (.text []))))))
  (.cond 15 16 .leaf (.seq (.reg (.text [.p (.sh [.nil])]))
  .leaf)))))
  (.cut [] [0] (.seq (.reg (.loads (.take 0 (.p .n) (.take 1 (.p .n) (.take 2 (.p .n) (.take 3 (.p (.sh [.slice])) (.take 4 (.p .n) (.take 5 (.p .n) (.take 6 (.p .n) (.take 7 (.p (.sh [.slice])) (.take 8 (.p .n) (.take 9 (.p .n) (.take 10 (.p (.sh [])) (.take 11 (.p (.sh [.int .u8])) (.take 12 (.p .n) .done)))))))))))))))
  (.cond 11 12 (.reg (.held [11] (.take 0 (.p .n) (.take 1 (.p .n) (.take 2 (.p .n) (.take 3 (.p (.sh [.slice])) (.take 4 (.p .n) (.take 5 (.p .n) (.take 6 (.p .n) (.take 7 (.p (.sh [.slice])) (.take 8 (.p .n) (.take 9 (.p .n) (.take 10 (.p (.sh [])) (.run 11 (.p .n) .done .done)))))))))))))) (.reg (.text [.p .n, .p .n, .p .n, .p .n, .p (.sh [.slice]), .p .n, .p (.sh [.slice])]))))
  (.seq (.seq (.reg (.loads (.take 0 (.p .n) (.take 1 (.p .n) (.take 2 (.p .n) (.take 3 (.p (.sh [.slice])) (.take 4 (.p .n) (.take 5 (.p .n) (.take 6 (.p .n) (.take 7 (.p (.sh [.int .i64])) (.take 8 (.p (.sh [])) (.take 9 (.p .n) (.take 10 (.p (.sh [.int .i64])) .done)))))))))))))
  (.block (.seq (.block (.cut [] [0] (.block (.seq (.block (.seq (.seq (.seq (.reg (.text []))
  (.cond 1 2 .leaf .leaf))
  (.seq (.seq (.reg (.text []))
  (.cond 3 4 .leaf .leaf))
  (.seq (.reg (.text []))
  (.cond 5 6 .leaf .leaf))))
  .leaf))
  (.reg (.text [.p .n, .p .n, .p .n, .p .n, .p (.sh [.slice]), .p .n, .p (.sh [.slice])]))))
  (.seq (.reg (.text [.p .n, .p .n, .p .n, .p .n, .p (.sh [.slice]), .p .n, .p (.sh [.slice])]))
  .leaf)))
  (.seq (.cut [] [0] (.seq (.reg (.text [.p .n, .p .n, .p .n, .p (.sh [.bool])]))
  (.cond 9 10 (.reg (.text [.p .n, .p .n, .p .n, .p .n, .p (.sh [.slice]), .p .n, .p (.sh [.slice])])) .leaf))
  (.seq (.reg (.text [.p .n, .p .n, .p .n, .p (.sh [.any]), .p (.sh [.bool])]))
  (.cond 7 8 (.seq (.seq (.reg (.held [10] (.take 0 (.p .n) (.take 1 (.p .n) (.take 2 (.p .n) (.take 3 (.p (.sh [.ifp 72])) (.take 4 (.p .n) (.take 5 (.p .n) (.take 6 (.p .n) (.take 7 (.p (.sh [.slice])) (.take 8 (.p .n) (.take 9 (.p .n) (.run 10 (.p (.sh [.int .i64, .nil])) (.take 11 (.p .n) (.take 12 (.p .n) (.take 13 (.p .n) (.take 14 (.p .n) (.take 15 (.p .n) .done))))) .done)))))))))))))
  (.seq (.reg (.text []))
  (.no .leaf)))
  (.reg (.text [.p .n, .p .n, .p .n, .p .n, .p (.sh [.slice])]))) .leaf)))
  .leaf))))
  (.seq (.reg (.text [.p .n, .p (.sh [])]))
  (.seq (.reg (.text []))
  .leaf)))))
theorem vcE72 (ejvw : Addr) (w : World) (R : Value → World → Prop) : vcFn prog f72 an72 [.pointer (some ejvw)] w R = VC72 ejvw w R := by kernel_rfl
theorem c72 (ejvw : Addr) (w : World) (R : Value → World → Prop) (hvc : VC72 ejvw w R) : Calls prog 72 ⟨[.pointer (some ejvw)]⟩ w fun e w' => ∃ v, e = .returned v ∧ R v w' :=
  vc_calls mixed (fn := f72) (ann := an72) (by kernel_rfl) ((vcE72 ejvw w R).symm ▸ hvc)

/- F41: impl.writeKidsExt -/
def VC41 (wx : Addr) (kids : Option Addr) (kids_n kids_c : Nat) (w : World) (R : Value → World → Prop) : Prop :=
  ∃ Ix : Nat → Int → World → Prop, (∃ m_2, Ix m_2 0 w) ∧
  ∀ m, ∀ x11 : Int, ∀ w1, Ix m x11 w1 →
  (decide (x11 < (kids_n : Int)) = true →
    ((0 : Int) ≤ x11 ∧ x11 < (kids_n : Int)) ∧ ∃ kidsa : Addr, kids = some kidsa ∧ 
      ∃ x14 : List UInt8, ∃ x14_1 : Int, ∃ x14_2 : List UInt8, ∃ x14_3 : List UInt8, ∃ x14_4 : Int, ∃ x14_5 : Int, ∃ x14_6 : Int, ∃ (x14_7 : Option Addr) (x14_7_n x14_7_c : Nat), ∃ (x14_8 : Option Addr) (x14_8_n x14_8_c : Nat), LoadsRow prog 46 w1 (kidsa.add (x11.toNat * 9)) [.string (mkS x14), .int .i64 x14_1, .string (mkS x14_2), .string (mkS x14_3), .int .i64 x14_4, .int .u64 x14_5, .int .u64 x14_6, .slice x14_7 x14_7_n x14_7_c, .slice x14_8 x14_8_n x14_8_c] ∧ 
      ∀ w2, w2 = w1.alloc (.cells ⟨[.string (mkS []), .int .i64 0, .string (mkS []), .string (mkS []), .int .i64 0, .int .u64 0, .int .u64 0, .slice none 0 0, .slice none 0 0]⟩ 46) → 
      ∃ w3, (Instr.storeAt 46 (.pointer (some ⟨w1.heap.size, 0, none⟩)) (.agg ⟨[.string (mkS x14), .int .i64 x14_1, .string (mkS x14_2), .string (mkS x14_3), .int .i64 x14_4, .int .u64 x14_5, .int .u64 x14_6, .slice x14_7 x14_7_n x14_7_c, .slice x14_8 x14_8_n x14_8_c]⟩)).run prog w2 = .ok () w3 ∧ 
      ∃ x18 : List UInt8, w3.cell? ⟨w1.heap.size, 0, none⟩ = some (.string (mkS x18)) ∧ 
      Calls prog 70 ⟨[.pointer (some wx), .string (mkS x18)]⟩ w3 fun e w4 => ∃ x19 : Addr, e = .returned (.tuple ⟨[.iface 70 (.pointer (some x19)), .nilIface]⟩) ∧ 
      ∃ x27 : Int, ∃ x27_1 : List UInt8, ∃ x27_2 : List UInt8, ∃ x27_3 : Int, ∃ x27_4 : Int, ∃ x27_5 : Int, ∃ (x27_6 : Option Addr) (x27_6_n x27_6_c : Nat), ∃ (x27_7 : Option Addr) (x27_7_n x27_7_c : Nat), LoadsRow prog 26 w4 ⟨w1.heap.size, 1, none⟩ [.int .i64 x27, .string (mkS x27_1), .string (mkS x27_2), .int .i64 x27_3, .int .u64 x27_4, .int .u64 x27_5, .slice x27_6 x27_6_n x27_6_c, .slice x27_7 x27_7_n x27_7_c] ∧ 
      Calls prog 71 ⟨[.pointer (some wx), .agg ⟨[.int .i64 x27, .string (mkS x27_1), .string (mkS x27_2), .int .i64 x27_3, .int .u64 x27_4, .int .u64 x27_5, .slice x27_6 x27_6_n x27_6_c, .slice x27_7 x27_7_n x27_7_c]⟩]⟩ w4 fun e w5 => e = .returned .nilIface ∧ 
      ∃ x31 : Int, IntKind.i64.wrap (x11 + 1) = x31 ∧ 
      ∃ m_1, m_1 < m ∧ Ix m_1 x31 w5) ∧ (decide (x11 < (kids_n : Int)) = false →
    Calls prog 72 ⟨[.pointer (some wx)]⟩ w1 fun e w6 => e = .returned .nilIface ∧ 
      R (.bool true) w6)
def an41 : Ann :=
  .seq (.reg (.text []))
  (.seq (.seq (.reg (.text []))
  (.block (.loop [(11, .int .i64)] [0, 9, 10] (.seq (.reg (.text []))
  (.seq (.cond 1 2 .leaf .leaf)
  (.seq (.block (.seq (.reg (.text [.p (.sh []), .p (.sh [.str, .int .i64, .str, .str, .int .i64, .int .u64, .int .u64, .slice, .slice])]))
  (.seq (.reg (.text [.p .n, .p .n, .p (.sh [.str]), .p (.sh [.ifp 70, .nil])]))
  (.seq (.reg (.text [.p .n, .p .n, .p .n, .p .n, .p .n, .p (.sh [.int .i64, .str, .str, .int .i64, .int .u64, .int .u64, .slice, .slice]), .p (.sh [.nil])]))
  (.no .leaf)))))
  (.reg (.text []))))))))
  (.seq (.reg (.text [.p .n, .p (.sh [.nil])]))
  .leaf))
theorem vcE41 (wx : Addr) (kids : Option Addr) (kids_n kids_c : Nat) (w : World) (R : Value → World → Prop) : vcFn prog f41 an41 [.pointer (some wx), .slice kids kids_n kids_c] w R = VC41 wx kids kids_n kids_c w R := by kernel_rfl
theorem c41 (wx : Addr) (kids : Option Addr) (kids_n kids_c : Nat) (w : World) (R : Value → World → Prop) (hvc : VC41 wx kids kids_n kids_c w R) : Calls prog 41 ⟨[.pointer (some wx), .slice kids kids_n kids_c]⟩ w fun e w' => ∃ v, e = .returned v ∧ R v w' :=
  vc_calls mixed (fn := f41) (ann := an41) (by kernel_rfl) ((vcE41 wx kids kids_n kids_c w R).symm ▸ hvc)

/- F71: impl.writeValueExt -/
def VC71 (wx : Addr) (vKind : Int) (vText : List UInt8) (vMore : List UInt8) (vN : Int) (vBits : Int) (vHigh : Int) (vB : Option Addr) (vB_n vB_c : Nat) (vKids : Option Addr) (vKids_n vKids_c : Nat) (w : World) (R : Value → World → Prop) : Prop :=
  ∀ w1, w1 = w.alloc (.cells ⟨[.int .i64 vKind, .string (mkS vText), .string (mkS vMore), .int .i64 vN, .int .u64 vBits, .int .u64 vHigh, .slice vB vB_n vB_c, .slice vKids vKids_n vKids_c]⟩ 26) → 
  ∃ x14 : Int, w1.cell? ⟨w.heap.size, 0, none⟩ = some (.int .i64 x14) ∧ 
  (decide (x14 = 3) = true →
  Calls prog 40 ⟨[.pointer (some wx)]⟩ w1 fun e w2 => ∃ x19 : Addr, e = .returned (.tuple ⟨[.iface 70 (.pointer (some x19)), .nilIface]⟩) ∧ 
    ∃ (x27 : Option Addr) (x27_n x27_c : Nat), w2.cell? ⟨w.heap.size, 7, none⟩ = some (.slice x27 x27_n x27_c) ∧ 
    Calls prog 41 ⟨[.pointer (some wx), .slice x27 x27_n x27_c]⟩ w2 fun e w3 => ∃ x28 : Bool, e = .returned (.bool x28) ∧ 
    ((!x28) = true →
    ∃ x31 : Value, w3.cell? ⟨1, 0, none⟩ = some x31 ∧ 
      R x31 w3) ∧ ((!x28) = false →
    R .nilIface w3)) ∧ (decide (x14 = 3) = false →
  (decide (x14 = 4) = true →
    Calls prog 126 ⟨[.pointer (some wx)]⟩ w1 fun e w4 => ∃ x37 : Addr, e = .returned (.tuple ⟨[.iface 70 (.pointer (some x37)), .nilIface]⟩) ∧ 
      ∃ (x44 : Option Addr) (x44_n x44_c : Nat), w4.cell? ⟨w.heap.size, 7, none⟩ = some (.slice x44 x44_n x44_c) ∧ 
      ∃ Ix : Nat → Int → World → Prop, (∃ m_2, Ix m_2 0 w4) ∧
      ∀ m, ∀ x46 : Int, ∀ w5, Ix m x46 w5 →
      (decide (x46 < (x44_n : Int)) = true →
        ((0 : Int) ≤ x46 ∧ x46 < (x44_n : Int)) ∧ ∃ x44a : Addr, x44 = some x44a ∧ 
          ∃ x49 : List UInt8, ∃ x49_1 : Int, ∃ x49_2 : List UInt8, ∃ x49_3 : List UInt8, ∃ x49_4 : Int, ∃ x49_5 : Int, ∃ x49_6 : Int, ∃ (x49_7 : Option Addr) (x49_7_n x49_7_c : Nat), ∃ (x49_8 : Option Addr) (x49_8_n x49_8_c : Nat), LoadsRow prog 46 w5 (x44a.add (x46.toNat * 9)) [.string (mkS x49), .int .i64 x49_1, .string (mkS x49_2), .string (mkS x49_3), .int .i64 x49_4, .int .u64 x49_5, .int .u64 x49_6, .slice x49_7 x49_7_n x49_7_c, .slice x49_8 x49_8_n x49_8_c] ∧ 
          ∀ w6, w6 = w5.alloc (.cells ⟨[.string (mkS []), .int .i64 0, .string (mkS []), .string (mkS []), .int .i64 0, .int .u64 0, .int .u64 0, .slice none 0 0, .slice none 0 0]⟩ 46) → 
          ∃ w7, (Instr.storeAt 46 (.pointer (some ⟨w5.heap.size, 0, none⟩)) (.agg ⟨[.string (mkS x49), .int .i64 x49_1, .string (mkS x49_2), .string (mkS x49_3), .int .i64 x49_4, .int .u64 x49_5, .int .u64 x49_6, .slice x49_7 x49_7_n x49_7_c, .slice x49_8 x49_8_n x49_8_c]⟩)).run prog w6 = .ok () w7 ∧ 
          Calls prog 127 ⟨[.pointer (some wx)]⟩ w7 fun e w8 => ∃ x52 : Addr, e = .returned (.tuple ⟨[.iface 70 (.pointer (some x52)), .nilIface]⟩) ∧ 
          ∃ x60 : Int, ∃ x60_1 : List UInt8, ∃ x60_2 : List UInt8, ∃ x60_3 : Int, ∃ x60_4 : Int, ∃ x60_5 : Int, ∃ (x60_6 : Option Addr) (x60_6_n x60_6_c : Nat), ∃ (x60_7 : Option Addr) (x60_7_n x60_7_c : Nat), LoadsRow prog 26 w8 ⟨w5.heap.size, 1, none⟩ [.int .i64 x60, .string (mkS x60_1), .string (mkS x60_2), .int .i64 x60_3, .int .u64 x60_4, .int .u64 x60_5, .slice x60_6 x60_6_n x60_6_c, .slice x60_7 x60_7_n x60_7_c] ∧ 
          Calls prog 71 ⟨[.pointer (some wx), .agg ⟨[.int .i64 x60, .string (mkS x60_1), .string (mkS x60_2), .int .i64 x60_3, .int .u64 x60_4, .int .u64 x60_5, .slice x60_6 x60_6_n x60_6_c, .slice x60_7 x60_7_n x60_7_c]⟩]⟩ w8 fun e w9 => e = .returned .nilIface ∧ 
          ∃ x65 : Int, IntKind.i64.wrap (x46 + 1) = x65 ∧ 
          ∃ m_1, m_1 < m ∧ Ix m_1 x65 w9) ∧ (decide (x46 < (x44_n : Int)) = false →
        Calls prog 128 ⟨[.pointer (some wx)]⟩ w5 fun e w10 => e = .returned .nilIface ∧ 
          R .nilIface w10)) ∧ (decide (x14 = 4) = false →
    (decide (x14 = 15) = true →
      ∃ x73 : List UInt8, w1.cell? ⟨w.heap.size, 1, none⟩ = some (.string (mkS x73)) ∧ 
        Calls prog 129 ⟨[.pointer (some wx), .string (mkS x73)]⟩ w1 fun e w11 => ∃ x74 : Addr, e = .returned (.tuple ⟨[.iface 70 (.pointer (some x74)), .nilIface]⟩) ∧ 
        ∃ (x82 : Option Addr) (x82_n x82_c : Nat), w11.cell? ⟨w.heap.size, 7, none⟩ = some (.slice x82 x82_n x82_c) ∧ 
        Calls prog 41 ⟨[.pointer (some wx), .slice x82 x82_n x82_c]⟩ w11 fun e w12 => ∃ x83 : Bool, e = .returned (.bool x83) ∧ 
        ((!x83) = true →
        ∃ x86 : Value, w12.cell? ⟨1, 0, none⟩ = some x86 ∧ 
          R x86 w12) ∧ ((!x83) = false →
        R .nilIface w12)) ∧ (decide (x14 = 15) = false →
      ∃ x89 : Int, ∃ x89_1 : List UInt8, ∃ x89_2 : List UInt8, ∃ x89_3 : Int, ∃ x89_4 : Int, ∃ x89_5 : Int, ∃ (x89_6 : Option Addr) (x89_6_n x89_6_c : Nat), ∃ (x89_7 : Option Addr) (x89_7_n x89_7_c : Nat), LoadsRow prog 26 w1 ⟨w.heap.size, 0, none⟩ [.int .i64 x89, .string (mkS x89_1), .string (mkS x89_2), .int .i64 x89_3, .int .u64 x89_4, .int .u64 x89_5, .slice x89_6 x89_6_n x89_6_c, .slice x89_7 x89_7_n x89_7_c] ∧ 
        Calls prog 130 ⟨[.pointer (some wx), .agg ⟨[.int .i64 x89, .string (mkS x89_1), .string (mkS x89_2), .int .i64 x89_3, .int .u64 x89_4, .int .u64 x89_5, .slice x89_6 x89_6_n x89_6_c, .slice x89_7 x89_7_n x89_7_c]⟩]⟩ w1 fun e w13 => e = .returned .nilIface ∧ 
        R .nilIface w13)))
def an71 : Ann :=
  .seq (.reg (.text []))
  (.seq (.seq (.reg (.text [.p .n, .p (.sh [.int .i64])]))
  (.block (.seq (.reg (.text []))
  (.cond 1 2 (.seq (.reg (.text [.p .n, .p (.sh [.ifp 70, .nil])]))
  (.seq (.seq (.reg (.text [.p .n, .p .n, .p .n, .p .n, .p .n, .p (.sh [.slice]), .p (.sh [.bool])]))
  (.cond 3 4 (.reg (.text [.p (.sh [.any])])) .leaf))
  (.seq (.reg (.text []))
  .leaf))) (.seq (.reg (.text []))
  (.cond 5 6 (.seq (.reg (.text [.p .n, .p (.sh [.ifp 70, .nil])]))
  (.seq (.seq (.reg (.text []))
  (.no .leaf))
  (.seq (.seq (.reg (.text [.p .n, .p (.sh [.slice])]))
  (.block (.loop [(46, .int .i64)] [0, 44, 45] (.seq (.reg (.text []))
  (.seq (.cond 7 8 .leaf .leaf)
  (.seq (.block (.seq (.reg (.text [.p (.sh []), .p (.sh [.str, .int .i64, .str, .str, .int .i64, .int .u64, .int .u64, .slice, .slice])]))
  (.seq (.seq (.reg (.text [.p .n, .p (.sh [.ifp 70, .nil])]))
  (.seq (.reg (.text []))
  (.no .leaf)))
  (.seq (.reg (.text [.p .n, .p .n, .p (.sh [.int .i64, .str, .str, .int .i64, .int .u64, .int .u64, .slice, .slice]), .p (.sh [.nil])]))
  (.seq (.reg (.text []))
  (.no .leaf))))))
  (.reg (.text []))))))))
  (.seq (.reg (.text [.p .n, .p (.sh [.nil])]))
  .leaf)))) (.seq (.reg (.text []))
  (.cond 9 10 (.seq (.reg (.text [.p .n, .p .n, .p (.sh [.str]), .p (.sh [.ifp 70, .nil])]))
  (.seq (.seq (.reg (.text [.p .n, .p .n, .p .n, .p .n, .p .n, .p (.sh [.slice]), .p (.sh [.bool])]))
  (.cond 11 12 (.reg (.text [.p (.sh [.any])])) .leaf))
  (.seq (.reg (.text []))
  .leaf))) .leaf))))))))
  (.seq (.reg (.text [.p .n, .p (.sh [.int .i64, .str, .str, .int .i64, .int .u64, .int .u64, .slice, .slice]), .p (.sh [.nil])]))
  .leaf))
theorem vcE71 (wx : Addr) (vKind : Int) (vText : List UInt8) (vMore : List UInt8) (vN : Int) (vBits : Int) (vHigh : Int) (vB : Option Addr) (vB_n vB_c : Nat) (vKids : Option Addr) (vKids_n vKids_c : Nat) (w : World) (R : Value → World → Prop) : vcFn prog f71 an71 [.pointer (some wx), .agg ⟨[.int .i64 vKind, .string (mkS vText), .string (mkS vMore), .int .i64 vN, .int .u64 vBits, .int .u64 vHigh, .slice vB vB_n vB_c, .slice vKids vKids_n vKids_c]⟩] w R = VC71 wx vKind vText vMore vN vBits vHigh vB vB_n vB_c vKids vKids_n vKids_c w R := by kernel_rfl
theorem c71 (wx : Addr) (vKind : Int) (vText : List UInt8) (vMore : List UInt8) (vN : Int) (vBits : Int) (vHigh : Int) (vB : Option Addr) (vB_n vB_c : Nat) (vKids : Option Addr) (vKids_n vKids_c : Nat) (w : World) (R : Value → World → Prop) (hvc : VC71 wx vKind vText vMore vN vBits vHigh vB vB_n vB_c vKids vKids_n vKids_c w R) : Calls prog 71 ⟨[.pointer (some wx), .agg ⟨[.int .i64 vKind, .string (mkS vText), .string (mkS vMore), .int .i64 vN, .int .u64 vBits, .int .u64 vHigh, .slice vB vB_n vB_c, .slice vKids vKids_n vKids_c]⟩]⟩ w fun e w' => ∃ v, e = .returned v ∧ R v w' :=
  vc_calls mixed (fn := f71) (ann := an71) (by kernel_rfl) ((vcE71 wx vKind vText vMore vN vBits vHigh vB vB_n vB_c vKids vKids_n vKids_c w R).symm ▸ hvc)

/- F70: bson.extJSONValueWriter).WriteDocumentElement -/
def VC70 (ejvw : Addr) (key : List UInt8) (w : World) (R : Value → World → Prop) : Prop :=
  ∃ (x10 : Option Addr) (x10_n x10_c : Nat), w.drew.cell? (ejvw.add 2) = some (.slice x10 x10_n x10_c) ∧ 
  ∃ x14 : Int, w.drew.cell? (ejvw.add 3) = some (.int .i64 x14) ∧ 
  ((0 : Int) ≤ x14 ∧ x14 < (x10_n : Int)) ∧ ∃ x10a : Addr, x10 = some x10a ∧ 
  ∃ x17 : Int, w.drew.cell? (x10a.add (x14.toNat * 1)) = some (.int .i64 x17) ∧ 
  ∀ Kx : Bool → World → Prop, (∀ x21 : Bool, ∀ w1,
  ((x21 = true →
    ∀ w2, w2 = w1.alloc (.cells ⟨[.slice none 0 0, .int .i64 0, .int .i8 0]⟩ 69) → 
      ∃ x29 : Bool, w2.cell? (ejvw.add 5) = some (.bool x29) ∧ 
      Calls prog 125 ⟨[.string (mkS key), .pointer (some (⟨w1.heap.size, 0, none⟩)), .bool x29]⟩ w2 fun e w3 => e = .returned (.tuple ⟨[]⟩) ∧ 
      ∃ f : List (Addr × Value), Kept w3 f ∧
      ∃ (x35 : Option Addr) (x35_n x35_c : Nat), ((ejvw.add 1), .slice x35 x35_n x35_c) ∈ f ∧ 
      Calls prog 42 ⟨[.pointer (some (⟨w1.heap.size, 0, none⟩))]⟩ w3.drew fun e w4 => ∃ x36 : List UInt8, e = .returned (.string (mkS x36)) ∧ 
      Kept w4 f ∧ x36.length + [58].length ≤ 9223372036854775807 ∧ 
      ∃ (x38 : Option Addr) (x38_n x38_c : Nat), ∃ w5, (convert 9 23 (.string (mkS (x36 ++ [58])))).run prog w4 = .ok (.slice x38 x38_n x38_c) w5 ∧ 
      Kept w5 f ∧ ∃ (x39 : Option Addr) (x39_n x39_c : Nat), ∃ w6, BuiltinOk prog .append #[23, 23] 23 [false, false] [.slice x35 x35_n x35_c, .slice x38 x38_n x38_c] w5 (.slice x39 x39_n x39_c) w6 ∧ 
      CanStore w6 (ejvw.add 1) (.slice x39 x39_n x39_c) ∧ ∀ w7, w7 = w6.setCell (ejvw.add 1) (.slice x39 x39_n x39_c) → 
      Calls prog 69 ⟨[.pointer (some ejvw), .int .i64 5]⟩ w7 fun e w8 => e = .returned (.tuple ⟨[]⟩) ∧ 
      R (.tuple ⟨[.iface 70 (.pointer (some ejvw)), .nilIface]⟩) w8) ∧ (x21 = false →
    ∀ w9, w9 = w1.alloc (.cells ⟨[.int .i64 2, .int .i64 1, .int .i64 6]⟩ 110) → 
      Calls prog 123 ⟨[.pointer (some ejvw), .int .i64 5, .string (mkS [87, 114, 105, 116, 101, 68, 111, 99, 117, 109, 101, 110, 116, 69, 108, 101, 109, 101, 110, 116]), .slice (some (⟨w1.heap.size, 0, none⟩)) 3 3]⟩ w9 fun e w10 => e = .returned .nilIface ∧ 
      R (.tuple ⟨[.nilIface, .nilIface]⟩) w10)) → Kx x21 w1) →
  (decide (x17 = 2) = true →
  Kx (decide (x17 = 2)) w.drew) ∧ (decide (x17 = 2) = false →
  (decide (x17 = 1) = true →
    Kx (decide (x17 = 1)) w.drew) ∧ (decide (x17 = 1) = false →
    Kx (decide (x17 = 6)) w.drew))
def an70 : Ann :=
  .seq (.reg (.text []))
  (.seq (.seq (.reg (.loads (.take 0 (.p .n) (.take 1 (.p .n) (.take 2 (.p .n) (.take 3 (.p (.sh [.slice])) (.take 4 (.p .n) (.take 5 (.p .n) (.take 6 (.p .n) (.take 7 (.p (.sh [.int .i64])) (.take 8 (.p (.sh [])) (.take 9 (.p .n) (.take 10 (.p (.sh [.int .i64])) .done)))))))))))))
  (.block (.cut [(21, .bool)] [0, 1] (.seq (.reg (.text []))
  (.cond 3 4 .leaf (.seq (.reg (.text []))
  (.cond 5 6 .leaf (.reg (.text []))))))
  (.cond 1 2 (.seq (.reg (.text []))
  (.seq (.reg (.text [.p .n, .p .n, .p .n, .p .n, .p (.sh [.bool]), .p (.sh [])]))
  (.seq (.reg (.held [8, 11] (.take 0 (.p .n) (.take 1 (.p .n) (.take 2 (.p .n) (.take 3 (.p .n) (.take 4 (.p (.sh [.slice])) (.run 5 (.p (.sh [.str])) (.take 6 (.p .n) (.run 7 (.p (.sh [.slice])) (.run 8 (.p (.sh [.slice])) (.take 9 (.p .n) (.take 10 (.p .n) (.run 11 (.p .n) .done .done))) .done) .done)) .done))))))))
  (.reg (.text [.p .n, .p (.sh [])]))))) (.seq (.reg (.text [.p .n, .p .n, .p (.sh [.nil])]))
  .leaf)))))
  (.seq (.reg (.text []))
  .leaf))
theorem vcE70 (ejvw : Addr) (key : List UInt8) (w : World) (R : Value → World → Prop) : vcFn prog f70 an70 [.pointer (some ejvw), .string (mkS key)] w R = VC70 ejvw key w R := by kernel_rfl
theorem c70 (ejvw : Addr) (key : List UInt8) (w : World) (R : Value → World → Prop) (hvc : VC70 ejvw key w R) : Calls prog 70 ⟨[.pointer (some ejvw), .string (mkS key)]⟩ w fun e w' => ∃ v, e = .returned v ∧ R v w' :=
  vc_calls mixed (fn := f70) (ann := an70) (by kernel_rfl) ((vcE70 ejvw key w R).symm ▸ hvc)

/- F129: bson.extJSONValueWriter).WriteCodeWithScope -/
def VC129 (ejvw : Addr) (code : List UInt8) (w : World) (R : Value → World → Prop) : Prop :=
  Calls prog 68 ⟨[.pointer (some ejvw), .int .i64 6, .string (mkS [87, 114, 105, 116, 101, 67, 111, 100, 101, 87, 105, 116, 104, 83, 99, 111, 112, 101]), .slice none 0 0]⟩ w fun e w1 => e = .returned .nilIface ∧ 
  ∀ w2, w2 = w1.alloc (.cells ⟨[.slice none 0 0, .int .i64 0, .int .i8 0]⟩ 69) → 
  Calls prog 141 ⟨[.pointer (some (⟨w1.heap.size, 0, none⟩)), .string (mkS [123, 34, 36, 99, 111, 100, 101, 34, 58])]⟩ w2 fun e w3 => ∃ x13 : Int, e = .returned (.tuple ⟨[.int .i64 x13, .nilIface]⟩) ∧ 
  ∃ x18 : Bool, w3.cell? (ejvw.add 5) = some (.bool x18) ∧ 
  Calls prog 125 ⟨[.string (mkS code), .pointer (some (⟨w1.heap.size, 0, none⟩)), .bool x18]⟩ w3 fun e w4 => e = .returned (.tuple ⟨[]⟩) ∧ 
  Calls prog 141 ⟨[.pointer (some (⟨w1.heap.size, 0, none⟩)), .string (mkS [44, 34, 36, 115, 99, 111, 112, 101, 34, 58, 123])]⟩ w4 fun e w5 => ∃ x20 : Int, e = .returned (.tuple ⟨[.int .i64 x20, .nilIface]⟩) ∧ 
  ∃ f : List (Addr × Value), Kept w5 f ∧
  ∃ (x25 : Option Addr) (x25_n x25_c : Nat), ((ejvw.add 1), .slice x25 x25_n x25_c) ∈ f ∧ 
  Calls prog 177 ⟨[.pointer (some (⟨w1.heap.size, 0, none⟩))]⟩ w5.drew fun e w6 => ∃ (x26 : Option Addr) (x26_n x26_c : Nat), e = .returned (.slice x26 x26_n x26_c) ∧ 
  Kept w6 f ∧ ∃ (x27 : Option Addr) (x27_n x27_c : Nat), ∃ w7, BuiltinOk prog .append #[23, 23] 23 [false, false] [.slice x25 x25_n x25_c, .slice x26 x26_n x26_c] w6 (.slice x27 x27_n x27_c) w7 ∧ 
  CanStore w7 (ejvw.add 1) (.slice x27 x27_n x27_c) ∧ ∀ w8, w8 = w7.setCell (ejvw.add 1) (.slice x27 x27_n x27_c) → 
  Calls prog 69 ⟨[.pointer (some ejvw), .int .i64 6]⟩ w8 fun e w9 => e = .returned (.tuple ⟨[]⟩) ∧ 
  R (.tuple ⟨[.iface 70 (.pointer (some ejvw)), .nilIface]⟩) w9
def an129 : Ann :=
  .seq (.reg (.text []))
  (.seq (.seq (.reg (.text [.p .n, .p (.sh [.nil])]))
  (.seq (.reg (.text []))
  (.no .leaf)))
  (.seq (.reg (.text []))
  (.seq (.reg (.text [.p (.sh [.int .i64, .nil])]))
  (.seq (.reg (.text [.p .n, .p .n, .p .n, .p .n, .p (.sh [.bool]), .p (.sh [])]))
  (.seq (.reg (.text [.p (.sh [.int .i64, .nil])]))
  (.seq (.reg (.held [6, 9] (.take 0 (.p .n) (.take 1 (.p .n) (.take 2 (.p .n) (.take 3 (.p .n) (.take 4 (.p (.sh [.slice])) (.run 5 (.p (.sh [.slice])) (.run 6 (.p (.sh [.slice])) (.take 7 (.p .n) (.take 8 (.p .n) (.run 9 (.p .n) .done .done))) .done) .done))))))))
  (.seq (.reg (.text [.p .n, .p (.sh [])]))
  (.seq (.reg (.text []))
  .leaf))))))))
theorem vcE129 (ejvw : Addr) (code : List UInt8) (w : World) (R : Value → World → Prop) : vcFn prog f129 an129 [.pointer (some ejvw), .string (mkS code)] w R = VC129 ejvw code w R := by kernel_rfl
theorem c129 (ejvw : Addr) (code : List UInt8) (w : World) (R : Value → World → Prop) (hvc : VC129 ejvw code w R) : Calls prog 129 ⟨[.pointer (some ejvw), .string (mkS code)]⟩ w fun e w' => ∃ v, e = .returned v ∧ R v w' :=
  vc_calls mixed (fn := f129) (ann := an129) (by kernel_rfl) ((vcE129 ejvw code w R).symm ▸ hvc)

end Go.Proofs.Tryz
