/- A part of a proof. -/
import Derived.Test.YtfofafjemgfobaaGreatDoorZ4
set_option linter.unusedVariables false
set_option maxRecDepth 100000
namespace Go.Proofs.Tryz
open Go.Vc

/- F7: laws.extDocument -/
def VC7 (xKind : Int) (xText : List UInt8) (xMore : List UInt8) (xN : Int) (xBits : Int) (xHigh : Int) (xB : Option Addr) (xB_n xB_c : Nat) (xKids : Option Addr) (xKids_n xKids_c : Nat) (w : World) (R : Value → World → Prop) : Prop :=
  ∀ w1, w1 = w.alloc (.cells ⟨[.int .i64 xKind, .string (mkS xText), .string (mkS xMore), .int .i64 xN, .int .u64 xBits, .int .u64 xHigh, .slice xB xB_n xB_c, .slice xKids xKids_n xKids_c]⟩ 26) → 
  ∀ w2, w2 = w1.alloc (.cells ⟨[.int .i64 0, .string (mkS []), .string (mkS []), .int .i64 0, .int .u64 0, .int .u64 0, .slice none 0 0, .slice none 0 0]⟩ 26) → 
  ∃ x4 : Int, w2.cell? ⟨w.heap.size, 0, none⟩ = some (.int .i64 x4) ∧ 
  (decide (x4 = 3) = true →
  ∃ x6 : Int, ∃ x6_1 : List UInt8, ∃ x6_2 : List UInt8, ∃ x6_3 : Int, ∃ x6_4 : Int, ∃ x6_5 : Int, ∃ (x6_6 : Option Addr) (x6_6_n x6_6_c : Nat), ∃ (x6_7 : Option Addr) (x6_7_n x6_7_c : Nat), LoadsRow prog 26 w2 ⟨w.heap.size, 0, none⟩ [.int .i64 x6, .string (mkS x6_1), .string (mkS x6_2), .int .i64 x6_3, .int .u64 x6_4, .int .u64 x6_5, .slice x6_6 x6_6_n x6_6_c, .slice x6_7 x6_7_n x6_7_c] ∧ 
    ∃ w3, (Instr.storeAt 26 (.pointer (some ⟨w1.heap.size, 0, none⟩)) (.agg ⟨[.int .i64 x6, .string (mkS x6_1), .string (mkS x6_2), .int .i64 x6_3, .int .u64 x6_4, .int .u64 x6_5, .slice x6_6 x6_6_n x6_6_c, .slice x6_7 x6_7_n x6_7_c]⟩)).run prog w2 = .ok () w3 ∧ 
    ∃ r : List Value, LoadsRow prog 26 w3 ⟨w1.heap.size, 0, none⟩ r ∧ R (.agg ⟨r⟩) w3) ∧ (decide (x4 = 3) = false →
  ∃ x7 : Int, ∃ x7_1 : List UInt8, ∃ x7_2 : List UInt8, ∃ x7_3 : Int, ∃ x7_4 : Int, ∃ x7_5 : Int, ∃ (x7_6 : Option Addr) (x7_6_n x7_6_c : Nat), ∃ (x7_7 : Option Addr) (x7_7_n x7_7_c : Nat), LoadsRow prog 26 w2 ⟨w.heap.size, 0, none⟩ [.int .i64 x7, .string (mkS x7_1), .string (mkS x7_2), .int .i64 x7_3, .int .u64 x7_4, .int .u64 x7_5, .slice x7_6 x7_6_n x7_6_c, .slice x7_7 x7_7_n x7_7_c] ∧ 
    ∃ x9 : List Value, (Instr.buildSlice 24 1 ⟨[(0, .agg ⟨[.string (mkS [97]), .int .i64 x7, .string (mkS x7_1), .string (mkS x7_2), .int .i64 x7_3, .int .u64 x7_4, .int .u64 x7_5, .slice x7_6 x7_6_n x7_6_c, .slice x7_7 x7_7_n x7_7_c]⟩)]⟩).run prog w2 = .ok (.slice (some (⟨w2.heap.size, 0, none⟩)) 1 1) (w2.alloc (.cells ⟨x9⟩ 46)) ∧ 
    ∃ w5, (Instr.storeAt 26 (.pointer (some ⟨w1.heap.size, 0, none⟩)) (.agg ⟨[.int .i64 3, .string (mkS []), .string (mkS []), .int .i64 0, .int .u64 0, .int .u64 0, .slice none 0 0, .slice (some (⟨w2.heap.size, 0, none⟩)) 1 1]⟩)).run prog (w2.alloc (.cells ⟨x9⟩ 46)) = .ok () w5 ∧ 
    ∃ r_1 : List Value, LoadsRow prog 26 w5 ⟨w1.heap.size, 0, none⟩ r_1 ∧ R (.agg ⟨r_1⟩) w5)
def an7 : Ann :=
  .seq (.reg (.text []))
  (.seq (.seq (.reg (.text [.p .n, .p (.sh [.int .i64])]))
  (.cond 1 2 (.seq (.reg (.text [.p (.sh [.int .i64, .str, .str, .int .i64, .int .u64, .int .u64, .slice, .slice])]))
  .leaf) .leaf))
  (.seq (.reg (.text [.p (.sh [.int .i64, .str, .str, .int .i64, .int .u64, .int .u64, .slice, .slice])]))
  .leaf))
theorem vcE7 (xKind : Int) (xText : List UInt8) (xMore : List UInt8) (xN : Int) (xBits : Int) (xHigh : Int) (xB : Option Addr) (xB_n xB_c : Nat) (xKids : Option Addr) (xKids_n xKids_c : Nat) (w : World) (R : Value → World → Prop) : vcFn prog f7 an7 [.agg ⟨[.int .i64 xKind, .string (mkS xText), .string (mkS xMore), .int .i64 xN, .int .u64 xBits, .int .u64 xHigh, .slice xB xB_n xB_c, .slice xKids xKids_n xKids_c]⟩] w R = VC7 xKind xText xMore xN xBits xHigh xB xB_n xB_c xKids xKids_n xKids_c w R := by kernel_rfl
theorem c7 (xKind : Int) (xText : List UInt8) (xMore : List UInt8) (xN : Int) (xBits : Int) (xHigh : Int) (xB : Option Addr) (xB_n xB_c : Nat) (xKids : Option Addr) (xKids_n xKids_c : Nat) (w : World) (R : Value → World → Prop) (hvc : VC7 xKind xText xMore xN xBits xHigh xB xB_n xB_c xKids xKids_n xKids_c w R) : Calls prog 7 ⟨[.agg ⟨[.int .i64 xKind, .string (mkS xText), .string (mkS xMore), .int .i64 xN, .int .u64 xBits, .int .u64 xHigh, .slice xB xB_n xB_c, .slice xKids xKids_n xKids_c]⟩]⟩ w fun e w' => ∃ v, e = .returned v ∧ R v w' :=
  vc_calls mixed (fn := f7) (ann := an7) (by kernel_rfl) ((vcE7 xKind xText xMore xN xBits xHigh xB xB_n xB_c xKids xKids_n xKids_c w R).symm ▸ hvc)

/- F8: laws.extFits -/
def VC8 (xKind : Int) (xText : List UInt8) (xMore : List UInt8) (xN : Int) (xBits : Int) (xHigh : Int) (xB : Option Addr) (xB_n xB_c : Nat) (xKids : Option Addr) (xKids_n xKids_c : Nat) (w : World) (R : Value → World → Prop) : Prop :=
  ∀ w1, w1 = w.alloc (.cells ⟨[.int .i64 xKind, .string (mkS xText), .string (mkS xMore), .int .i64 xN, .int .u64 xBits, .int .u64 xHigh, .slice xB xB_n xB_c, .slice xKids xKids_n xKids_c]⟩ 26) → 
  ∀ w2, w2 = w1.alloc (.cells ⟨[.int .i64 0]⟩ 3) → 
  CanStore w2 ⟨w1.heap.size, 0, none⟩ (.int .i64 300) ∧ ∀ w3, w3 = w2.setCell ⟨w1.heap.size, 0, none⟩ (.int .i64 300) → 
  ∃ x4 : Int, ∃ x4_1 : List UInt8, ∃ x4_2 : List UInt8, ∃ x4_3 : Int, ∃ x4_4 : Int, ∃ x4_5 : Int, ∃ (x4_6 : Option Addr) (x4_6_n x4_6_c : Nat), ∃ (x4_7 : Option Addr) (x4_7_n x4_7_c : Nat), LoadsRow prog 26 w3 ⟨w.heap.size, 0, none⟩ [.int .i64 x4, .string (mkS x4_1), .string (mkS x4_2), .int .i64 x4_3, .int .u64 x4_4, .int .u64 x4_5, .slice x4_6 x4_6_n x4_6_c, .slice x4_7 x4_7_n x4_7_c] ∧ 
  Calls prog 21 ⟨[.agg ⟨[.int .i64 x4, .string (mkS x4_1), .string (mkS x4_2), .int .i64 x4_3, .int .u64 x4_4, .int .u64 x4_5, .slice x4_6 x4_6_n x4_6_c, .slice x4_7 x4_7_n x4_7_c]⟩, .int .i64 12, .pointer (some (⟨w1.heap.size, 0, none⟩))]⟩ w3 fun e w4 => ∃ x5 : Bool, e = .returned (.bool x5) ∧ 
  (x5 = true →
  ∃ x7 : Int, ∃ x7_1 : List UInt8, ∃ x7_2 : List UInt8, ∃ x7_3 : Int, ∃ x7_4 : Int, ∃ x7_5 : Int, ∃ (x7_6 : Option Addr) (x7_6_n x7_6_c : Nat), ∃ (x7_7 : Option Addr) (x7_7_n x7_7_c : Nat), LoadsRow prog 26 w4 ⟨w.heap.size, 0, none⟩ [.int .i64 x7, .string (mkS x7_1), .string (mkS x7_2), .int .i64 x7_3, .int .u64 x7_4, .int .u64 x7_5, .slice x7_6 x7_6_n x7_6_c, .slice x7_7 x7_7_n x7_7_c] ∧ 
    Calls prog 22 ⟨[.agg ⟨[.int .i64 x7, .string (mkS x7_1), .string (mkS x7_2), .int .i64 x7_3, .int .u64 x7_4, .int .u64 x7_5, .slice x7_6 x7_6_n x7_6_c, .slice x7_7 x7_7_n x7_7_c]⟩]⟩ w4 fun e w5 => ∃ x8 : Bool, e = .returned (.bool x8) ∧ 
    R (.bool x8) w5) ∧ (x5 = false →
  R (.bool false) w4)
def an8 : Ann :=
  .seq (.reg (.text []))
  (.seq (.reg (.text []))
  (.seq (.reg (.text [.p (.sh [.int .i64, .str, .str, .int .i64, .int .u64, .int .u64, .slice, .slice]), .p (.sh [.bool]), .p .n, .gs (.sh [.int .i64, .str, .str, .int .i64, .int .u64, .int .u64, .slice, .slice]) 1 2, .on 2 (.p .n) (.p (.sh [.bool]))]))
  .leaf))
theorem vcE8 (xKind : Int) (xText : List UInt8) (xMore : List UInt8) (xN : Int) (xBits : Int) (xHigh : Int) (xB : Option Addr) (xB_n xB_c : Nat) (xKids : Option Addr) (xKids_n xKids_c : Nat) (w : World) (R : Value → World → Prop) : vcFn prog f8 an8 [.agg ⟨[.int .i64 xKind, .string (mkS xText), .string (mkS xMore), .int .i64 xN, .int .u64 xBits, .int .u64 xHigh, .slice xB xB_n xB_c, .slice xKids xKids_n xKids_c]⟩] w R = VC8 xKind xText xMore xN xBits xHigh xB xB_n xB_c xKids xKids_n xKids_c w R := by kernel_rfl
theorem c8 (xKind : Int) (xText : List UInt8) (xMore : List UInt8) (xN : Int) (xBits : Int) (xHigh : Int) (xB : Option Addr) (xB_n xB_c : Nat) (xKids : Option Addr) (xKids_n xKids_c : Nat) (w : World) (R : Value → World → Prop) (hvc : VC8 xKind xText xMore xN xBits xHigh xB xB_n xB_c xKids xKids_n xKids_c w R) : Calls prog 8 ⟨[.agg ⟨[.int .i64 xKind, .string (mkS xText), .string (mkS xMore), .int .i64 xN, .int .u64 xBits, .int .u64 xHigh, .slice xB xB_n xB_c, .slice xKids xKids_n xKids_c]⟩]⟩ w fun e w' => ∃ v, e = .returned v ∧ R v w' :=
  vc_calls mixed (fn := f8) (ann := an8) (by kernel_rfl) ((vcE8 xKind xText xMore xN xBits xHigh xB xB_n xB_c xKids xKids_n xKids_c w R).symm ▸ hvc)

/- F22: spec.DocRight -/
def VC22 (vKind : Int) (vText : List UInt8) (vMore : List UInt8) (vN : Int) (vBits : Int) (vHigh : Int) (vB : Option Addr) (vB_n vB_c : Nat) (vKids : Option Addr) (vKids_n vKids_c : Nat) (w : World) (R : Value → World → Prop) : Prop :=
  ∀ w1, w1 = w.alloc (.cells ⟨[.int .i64 vKind, .string (mkS vText), .string (mkS vMore), .int .i64 vN, .int .u64 vBits, .int .u64 vHigh, .slice vB vB_n vB_c, .slice vKids vKids_n vKids_c]⟩ 26) → 
  ∃ x3 : Int, ∃ x3_1 : List UInt8, ∃ x3_2 : List UInt8, ∃ x3_3 : Int, ∃ x3_4 : Int, ∃ x3_5 : Int, ∃ (x3_6 : Option Addr) (x3_6_n x3_6_c : Nat), ∃ (x3_7 : Option Addr) (x3_7_n x3_7_c : Nat), LoadsRow prog 26 w1 ⟨w.heap.size, 0, none⟩ [.int .i64 x3, .string (mkS x3_1), .string (mkS x3_2), .int .i64 x3_3, .int .u64 x3_4, .int .u64 x3_5, .slice x3_6 x3_6_n x3_6_c, .slice x3_7 x3_7_n x3_7_c] ∧ 
  Calls prog 60 ⟨[.agg ⟨[.int .i64 x3, .string (mkS x3_1), .string (mkS x3_2), .int .i64 x3_3, .int .u64 x3_4, .int .u64 x3_5, .slice x3_6 x3_6_n x3_6_c, .slice x3_7 x3_7_n x3_7_c]⟩, .int .i64 200]⟩ w1 fun e w2 => ∃ x4 : Bool, e = .returned (.bool x4) ∧ 
  R (.bool x4) w2
def an22 : Ann :=
  .seq (.reg (.text []))
  (.seq (.reg (.text [.p (.sh [.int .i64, .str, .str, .int .i64, .int .u64, .int .u64, .slice, .slice]), .p (.sh [.bool])]))
  .leaf)
theorem vcE22 (vKind : Int) (vText : List UInt8) (vMore : List UInt8) (vN : Int) (vBits : Int) (vHigh : Int) (vB : Option Addr) (vB_n vB_c : Nat) (vKids : Option Addr) (vKids_n vKids_c : Nat) (w : World) (R : Value → World → Prop) : vcFn prog f22 an22 [.agg ⟨[.int .i64 vKind, .string (mkS vText), .string (mkS vMore), .int .i64 vN, .int .u64 vBits, .int .u64 vHigh, .slice vB vB_n vB_c, .slice vKids vKids_n vKids_c]⟩] w R = VC22 vKind vText vMore vN vBits vHigh vB vB_n vB_c vKids vKids_n vKids_c w R := by kernel_rfl
theorem c22 (vKind : Int) (vText : List UInt8) (vMore : List UInt8) (vN : Int) (vBits : Int) (vHigh : Int) (vB : Option Addr) (vB_n vB_c : Nat) (vKids : Option Addr) (vKids_n vKids_c : Nat) (w : World) (R : Value → World → Prop) (hvc : VC22 vKind vText vMore vN vBits vHigh vB vB_n vB_c vKids vKids_n vKids_c w R) : Calls prog 22 ⟨[.agg ⟨[.int .i64 vKind, .string (mkS vText), .string (mkS vMore), .int .i64 vN, .int .u64 vBits, .int .u64 vHigh, .slice vB vB_n vB_c, .slice vKids vKids_n vKids_c]⟩]⟩ w fun e w' => ∃ v, e = .returned v ∧ R v w' :=
  vc_calls mixed (fn := f22) (ann := an22) (by kernel_rfl) ((vcE22 vKind vText vMore vN vBits vHigh vB vB_n vB_c vKids vKids_n vKids_c w R).symm ▸ hvc)

/- F113: spec.DocKnown -/
def VC113 (kind : Int) (w : World) (R : Value → World → Prop) : Prop :=
  (decide (1 ≤ kind) = true →
  (decide (kind ≤ 19) = true →
    R (.bool true) w) ∧ (decide (kind ≤ 19) = false →
    (decide (kind = 255) = true →
      R (.bool true) w) ∧ (decide (kind = 255) = false →
      R (.bool (decide (kind = 127))) w))) ∧ (decide (1 ≤ kind) = false →
  (decide (kind = 255) = true →
    R (.bool true) w) ∧ (decide (kind = 255) = false →
    R (.bool (decide (kind = 127))) w))
def an113 : Ann :=
  .seq (.reg (.text []))
  (.seq (.reg (.text [.p .n, .p .n, .p .n, .gs .n 1 2, .p .n, .p .n, .p .n, .on 2 (.p .n) (.gs .n 3 4), .p .n, .p .n, .p .n, .on 3 (.p .n) (.gs .n 5 6)]))
  .leaf)
theorem vcE113 (kind : Int) (w : World) (R : Value → World → Prop) : vcFn prog f113 an113 [.int .i64 kind] w R = VC113 kind w R := by kernel_rfl
theorem c113 (kind : Int) (w : World) (R : Value → World → Prop) (hvc : VC113 kind w R) : Calls prog 113 ⟨[.int .i64 kind]⟩ w fun e w' => ∃ v, e = .returned v ∧ R v w' :=
  vc_calls mixed (fn := f113) (ann := an113) (by kernel_rfl) ((vcE113 kind w R).symm ▸ hvc)

/- F114: spec.docBare -/
def VC114 (vKind : Int) (vText : List UInt8) (vMore : List UInt8) (vN : Int) (vBits : Int) (vHigh : Int) (vB : Option Addr) (vB_n vB_c : Nat) (vKids : Option Addr) (vKids_n vKids_c : Nat) (w : World) (R : Value → World → Prop) : Prop :=
  ∀ w1, w1 = w.alloc (.cells ⟨[.int .i64 vKind, .string (mkS vText), .string (mkS vMore), .int .i64 vN, .int .u64 vBits, .int .u64 vHigh, .slice vB vB_n vB_c, .slice vKids vKids_n vKids_c]⟩ 26) → 
  ∀ w2, w2 = w1.alloc (.cells ⟨[.int .i64 0, .string (mkS []), .string (mkS []), .int .i64 0, .int .u64 0, .int .u64 0, .slice none 0 0, .slice none 0 0]⟩ 26) → 
  ∀ Kx : World → Prop, (∀ w3,
  (∃ x47 : Int, ∃ x47_1 : List UInt8, ∃ x47_2 : List UInt8, ∃ x47_3 : Int, ∃ x47_4 : Int, ∃ x47_5 : Int, ∃ (x47_6 : Option Addr) (x47_6_n x47_6_c : Nat), ∃ (x47_7 : Option Addr) (x47_7_n x47_7_c : Nat), LoadsRow prog 26 w3 ⟨w.heap.size, 0, none⟩ [.int .i64 x47, .string (mkS x47_1), .string (mkS x47_2), .int .i64 x47_3, .int .u64 x47_4, .int .u64 x47_5, .slice x47_6 x47_6_n x47_6_c, .slice x47_7 x47_7_n x47_7_c] ∧ 
    ∃ w4, (Instr.storeAt 26 (.pointer (some ⟨w1.heap.size, 0, none⟩)) (.agg ⟨[.int .i64 x47, .string (mkS x47_1), .string (mkS x47_2), .int .i64 x47_3, .int .u64 x47_4, .int .u64 x47_5, .slice x47_6 x47_6_n x47_6_c, .slice x47_7 x47_7_n x47_7_c]⟩)).run prog w3 = .ok () w4 ∧ 
    ∃ r : List Value, LoadsRow prog 26 w4 ⟨w1.heap.size, 0, none⟩ r ∧ R (.agg ⟨r⟩) w4) → Kx w3) →
  ∃ x4 : Int, w2.cell? ⟨w.heap.size, 0, none⟩ = some (.int .i64 x4) ∧ 
  ∀ Kx_1 : Bool → World → Prop, (∀ x5 : Bool, ∀ w5,
  ((x5 = true →
    CanStore w5 ⟨w.heap.size, 4, none⟩ (.int .u64 0) ∧ ∀ w6, w6 = w5.setCell ⟨w.heap.size, 4, none⟩ (.int .u64 0) → 
      Kx w6) ∧ (x5 = false →
    ∀ Kx_2 : Bool → World → Prop, (∀ x9 : Bool, ∀ w7,
      ((x9 = true →
        CanStore w7 ⟨w.heap.size, 1, none⟩ (.string (mkS [])) ∧ ∀ w8, w8 = w7.setCell ⟨w.heap.size, 1, none⟩ (.string (mkS [])) → 
          Kx w8) ∧ (x9 = false →
        ∀ Kx_3 : Bool → World → Prop, (∀ x14 : Bool, ∀ w9,
          ((x14 = true →
            CanStore w9 ⟨w.heap.size, 7, none⟩ (.slice none 0 0) ∧ ∀ w10, w10 = w9.setCell ⟨w.heap.size, 7, none⟩ (.slice none 0 0) → 
              Kx w10) ∧ (x14 = false →
            (decide (x4 = 5) = true →
              CanStore w9 ⟨w.heap.size, 3, none⟩ (.int .i64 0) ∧ ∀ w11, w11 = w9.setCell ⟨w.heap.size, 3, none⟩ (.int .i64 0) → 
                CanStore w11 ⟨w.heap.size, 6, none⟩ (.slice none 0 0) ∧ ∀ w12, w12 = w11.setCell ⟨w.heap.size, 6, none⟩ (.slice none 0 0) → 
                Kx w12) ∧ (decide (x4 = 5) = false →
              (decide (x4 = 7) = true →
                CanStore w9 ⟨w.heap.size, 6, none⟩ (.slice none 0 0) ∧ ∀ w13, w13 = w9.setCell ⟨w.heap.size, 6, none⟩ (.slice none 0 0) → 
                  Kx w13) ∧ (decide (x4 = 7) = false →
                ∀ Kx_4 : Bool → World → Prop, (∀ x25 : Bool, ∀ w14,
                  ((x25 = true →
                    CanStore w14 ⟨w.heap.size, 3, none⟩ (.int .i64 0) ∧ ∀ w15, w15 = w14.setCell ⟨w.heap.size, 3, none⟩ (.int .i64 0) → 
                      Kx w15) ∧ (x25 = false →
                    (decide (x4 = 11) = true →
                      CanStore w14 ⟨w.heap.size, 1, none⟩ (.string (mkS [])) ∧ ∀ w16, w16 = w14.setCell ⟨w.heap.size, 1, none⟩ (.string (mkS [])) → 
                        CanStore w16 ⟨w.heap.size, 2, none⟩ (.string (mkS [])) ∧ ∀ w17, w17 = w16.setCell ⟨w.heap.size, 2, none⟩ (.string (mkS [])) → 
                        Kx w17) ∧ (decide (x4 = 11) = false →
                      (decide (x4 = 12) = true →
                        CanStore w14 ⟨w.heap.size, 1, none⟩ (.string (mkS [])) ∧ ∀ w18, w18 = w14.setCell ⟨w.heap.size, 1, none⟩ (.string (mkS [])) → 
                          CanStore w18 ⟨w.heap.size, 6, none⟩ (.slice none 0 0) ∧ ∀ w19, w19 = w18.setCell ⟨w.heap.size, 6, none⟩ (.slice none 0 0) → 
                          Kx w19) ∧ (decide (x4 = 12) = false →
                        (decide (x4 = 15) = true →
                          CanStore w14 ⟨w.heap.size, 1, none⟩ (.string (mkS [])) ∧ ∀ w20, w20 = w14.setCell ⟨w.heap.size, 1, none⟩ (.string (mkS [])) → 
                            CanStore w20 ⟨w.heap.size, 7, none⟩ (.slice none 0 0) ∧ ∀ w21, w21 = w20.setCell ⟨w.heap.size, 7, none⟩ (.slice none 0 0) → 
                            Kx w21) ∧ (decide (x4 = 15) = false →
                          (decide (x4 = 19) = true →
                            CanStore w14 ⟨w.heap.size, 4, none⟩ (.int .u64 0) ∧ ∀ w22, w22 = w14.setCell ⟨w.heap.size, 4, none⟩ (.int .u64 0) → 
                              CanStore w22 ⟨w.heap.size, 5, none⟩ (.int .u64 0) ∧ ∀ w23, w23 = w22.setCell ⟨w.heap.size, 5, none⟩ (.int .u64 0) → 
                              Kx w23) ∧ (decide (x4 = 19) = false →
                            Kx w14)))))) → Kx_4 x25 w14) →
                  (decide (x4 = 8) = true →
                  Kx_4 (decide (x4 = 8)) w9) ∧ (decide (x4 = 8) = false →
                  (decide (x4 = 9) = true →
                    Kx_4 (decide (x4 = 9)) w9) ∧ (decide (x4 = 9) = false →
                    (decide (x4 = 16) = true →
                      Kx_4 (decide (x4 = 16)) w9) ∧ (decide (x4 = 16) = false →
                      Kx_4 (decide (x4 = 18)) w9))))))) → Kx_3 x14 w9) →
          (decide (x4 = 3) = true →
          Kx_3 (decide (x4 = 3)) w7) ∧ (decide (x4 = 3) = false →
          Kx_3 (decide (x4 = 4)) w7))) → Kx_2 x9 w7) →
      (decide (x4 = 2) = true →
      Kx_2 (decide (x4 = 2)) w5) ∧ (decide (x4 = 2) = false →
      (decide (x4 = 13) = true →
        Kx_2 (decide (x4 = 13)) w5) ∧ (decide (x4 = 13) = false →
        Kx_2 (decide (x4 = 14)) w5)))) → Kx_1 x5 w5) →
  (decide (x4 = 1) = true →
  Kx_1 (decide (x4 = 1)) w2) ∧ (decide (x4 = 1) = false →
  Kx_1 (decide (x4 = 17)) w2)
def an114 : Ann :=
  .seq (.reg (.text []))
  (.cut [] [1, 2] (.seq (.reg (.text [.p .n, .p (.sh [.int .i64])]))
  (.block (.cut [(5, .bool)] [1, 2, 4] (.seq (.reg (.text []))
  (.cond 33 34 .leaf (.reg (.text []))))
  (.cond 1 2 (.reg (.text [])) (.cut [(9, .bool)] [1, 2, 4] (.seq (.reg (.text []))
  (.cond 29 30 .leaf (.seq (.reg (.text []))
  (.cond 31 32 .leaf (.reg (.text []))))))
  (.cond 3 4 (.reg (.text [])) (.cut [(14, .bool)] [1, 2, 4] (.seq (.reg (.text []))
  (.cond 27 28 .leaf (.reg (.text []))))
  (.cond 5 6 (.reg (.text [])) (.seq (.reg (.text []))
  (.cond 7 8 (.reg (.text [])) (.seq (.reg (.text []))
  (.cond 9 10 (.reg (.text [])) (.cut [(25, .bool)] [1, 2, 4] (.seq (.reg (.text []))
  (.cond 21 22 .leaf (.seq (.reg (.text []))
  (.cond 23 24 .leaf (.seq (.reg (.text []))
  (.cond 25 26 .leaf (.reg (.text []))))))))
  (.cond 11 12 (.reg (.text [])) (.seq (.reg (.text []))
  (.cond 13 14 (.reg (.text [])) (.seq (.reg (.text []))
  (.cond 15 16 (.reg (.text [])) (.seq (.reg (.text []))
  (.cond 17 18 (.reg (.text [])) (.seq (.reg (.text []))
  (.cond 19 20 (.reg (.text [])) .leaf))))))))))))))))))))))
  (.seq (.reg (.text [.p (.sh [.int .i64, .str, .str, .int .i64, .int .u64, .int .u64, .slice, .slice])]))
  .leaf))
theorem vcE114 (vKind : Int) (vText : List UInt8) (vMore : List UInt8) (vN : Int) (vBits : Int) (vHigh : Int) (vB : Option Addr) (vB_n vB_c : Nat) (vKids : Option Addr) (vKids_n vKids_c : Nat) (w : World) (R : Value → World → Prop) : vcFn prog f114 an114 [.agg ⟨[.int .i64 vKind, .string (mkS vText), .string (mkS vMore), .int .i64 vN, .int .u64 vBits, .int .u64 vHigh, .slice vB vB_n vB_c, .slice vKids vKids_n vKids_c]⟩] w R = VC114 vKind vText vMore vN vBits vHigh vB vB_n vB_c vKids vKids_n vKids_c w R := by kernel_rfl
theorem c114 (vKind : Int) (vText : List UInt8) (vMore : List UInt8) (vN : Int) (vBits : Int) (vHigh : Int) (vB : Option Addr) (vB_n vB_c : Nat) (vKids : Option Addr) (vKids_n vKids_c : Nat) (w : World) (R : Value → World → Prop) (hvc : VC114 vKind vText vMore vN vBits vHigh vB vB_n vB_c vKids vKids_n vKids_c w R) : Calls prog 114 ⟨[.agg ⟨[.int .i64 vKind, .string (mkS vText), .string (mkS vMore), .int .i64 vN, .int .u64 vBits, .int .u64 vHigh, .slice vB vB_n vB_c, .slice vKids vKids_n vKids_c]⟩]⟩ w fun e w' => ∃ v, e = .returned v ∧ R v w' :=
  vc_calls mixed (fn := f114) (ann := an114) (by kernel_rfl) ((vcE114 vKind vText vMore vN vBits vHigh vB vB_n vB_c vKids vKids_n vKids_c w R).symm ▸ hvc)

/- F115: spec.DocPlain -/
def VC115 (s : List UInt8) (w : World) (R : Value → World → Prop) : Prop :=
  ∃ Ix : Nat → Int → World → Prop, (∃ m_2, Ix m_2 0 w) ∧
  ∀ m, ∀ i : Int, ∀ w1, Ix m i w1 →
  (decide (i < (s.length : Int)) = true →
    ∃ x12 : UInt8, ((0 : Int) ≤ i ∧ s[i.toNat]? = some x12) ∧ 
      (decide ((x12.toNat : Int) = 0) = true →
      R (.bool false) w1) ∧ (decide ((x12.toNat : Int) = 0) = false →
      ∃ x9 : Int, IntKind.i64.wrap (i + 1) = x9 ∧ 
        ∃ m_1, m_1 < m ∧ Ix m_1 x9 w1)) ∧ (decide (i < (s.length : Int)) = false →
    R (.bool true) w1)
def an115 : Ann :=
  .seq (.reg (.text []))
  (.seq (.seq (.reg (.text []))
  (.block (.loop [(3, .int .i64)] [0] (.seq (.seq (.reg (.text []))
  (.cond 1 2 .leaf .leaf))
  (.seq (.block (.seq (.reg (.text []))
  (.cond 3 4 (.seq (.reg (.text []))
  .leaf) .leaf)))
  (.reg (.text [])))))))
  (.seq (.reg (.text []))
  .leaf))
theorem vcE115 (s : List UInt8) (w : World) (R : Value → World → Prop) : vcFn prog f115 an115 [.string (mkS s)] w R = VC115 s w R := by kernel_rfl
theorem c115 (s : List UInt8) (w : World) (R : Value → World → Prop) (hvc : VC115 s w R) : Calls prog 115 ⟨[.string (mkS s)]⟩ w fun e w' => ∃ v, e = .returned v ∧ R v w' :=
  vc_calls mixed (fn := f115) (ann := an115) (by kernel_rfl) ((vcE115 s w R).symm ▸ hvc)

/- F116: spec.DocDigits -/
def VC116 (nx : Int) (w : World) (R : Value → World → Prop) : Prop :=
  (decide (nx < 10) = true →
  ∃ x6 : Int, IntKind.i64.wrap (48 + nx) = x6 ∧ 
    ∃ x7 : Int, IntKind.u8.wrap x6 = x7 ∧ 
    ∀ w1, w1 = w.alloc (.cells ⟨[.int .u8 x7]⟩ 5) → 
    ∃ x9 : List UInt8, ∃ w2, (convert 23 9 (.slice (some (⟨w.heap.size, 0, none⟩)) 1 1)).run prog w1 = .ok (.string (mkS x9)) w2 ∧ 
    R (.string (mkS x9)) w2) ∧ (decide (nx < 10) = false →
  ∃ f : List (Addr × Value), Kept w f ∧
    (10 : Int) ≠ 0 ∧ ∃ x11 : Int, IntKind.i64.wrap (Int.tdiv nx 10) = x11 ∧ 
    (10 : Int) ≠ 0 ∧ ∃ x14 : Int, Int.tmod nx 10 = x14 ∧ 
    ∃ x15 : Int, IntKind.i64.wrap (48 + x14) = x15 ∧ 
    ∃ x16 : Int, IntKind.u8.wrap x15 = x16 ∧ 
    (Calls prog 116 ⟨[.int .i64 x11]⟩ w.drew fun e w3 => ∃ x12 : List UInt8, e = .returned (.string (mkS x12)) ∧ 
    ∀ w4, w4 = w3.alloc (.cells ⟨[.int .u8 x16]⟩ 5) → 
    ∃ x18 : List UInt8, ∃ w5, (convert 23 9 (.slice (some (⟨w3.heap.size, 0, none⟩)) 1 1)).run prog w4 = .ok (.string (mkS x18)) w5 ∧ 
    x12.length + x18.length ≤ 9223372036854775807 ∧ 
    R (.string (mkS (x12 ++ x18))) w5) ∧ (∀ w6, w6 = w.drew.alloc (.cells ⟨[.int .u8 x16]⟩ 5) → 
    (Calls prog 116 ⟨[.int .i64 x11]⟩ w6 fun e w7 => ∃ x12_1 : List UInt8, e = .returned (.string (mkS x12_1)) ∧ 
    ∃ x18_1 : List UInt8, ∃ w8, (convert 23 9 (.slice (some (⟨w.drew.heap.size, 0, none⟩)) 1 1)).run prog w7 = .ok (.string (mkS x18_1)) w8 ∧ 
    x12_1.length + x18_1.length ≤ 9223372036854775807 ∧ 
    R (.string (mkS (x12_1 ++ x18_1))) w8) ∧ (∃ x18_2 : List UInt8, ∃ w9, (convert 23 9 (.slice (some (⟨w.drew.heap.size, 0, none⟩)) 1 1)).run prog w6 = .ok (.string (mkS x18_2)) w9 ∧ 
    Calls prog 116 ⟨[.int .i64 x11]⟩ w9 fun e w10 => ∃ x12_2 : List UInt8, e = .returned (.string (mkS x12_2)) ∧ 
    x12_2.length + x18_2.length ≤ 9223372036854775807 ∧ 
    R (.string (mkS (x12_2 ++ x18_2))) w10)))
def an116 : Ann :=
  .seq (.reg (.text []))
  (.seq (.seq (.reg (.text []))
  (.cond 1 2 (.seq (.reg (.text [.p .n, .p .n, .p .n, .p .n, .p (.sh [.str])]))
  .leaf) .leaf))
  (.seq (.reg (.held [2, 7, 8] (.take 0 (.p .n) (.take 1 (.p .n) (.take 3 (.p .n) (.take 4 (.p .n) (.take 5 (.p .n) (.take 6 (.p .n) (.run 2 (.p (.sh [.str])) (.run 7 (.p .n) (.run 8 (.p (.sh [.str])) (.take 9 (.p .n) (.take 10 (.p .n) .done)) .done) .done) (.run 7 (.p .n) (.run 2 (.p (.sh [.str])) (.run 8 (.p (.sh [.str])) (.take 9 (.p .n) (.take 10 (.p .n) .done)) .done) (.run 8 (.p (.sh [.str])) (.run 2 (.p (.sh [.str])) (.take 9 (.p .n) (.take 10 (.p .n) .done)) .done) .done)) .done))))))))))
  .leaf))
theorem vcE116 (nx : Int) (w : World) (R : Value → World → Prop) : vcFn prog f116 an116 [.int .i64 nx] w R = VC116 nx w R := by kernel_rfl
theorem c116 (nx : Int) (w : World) (R : Value → World → Prop) (hvc : VC116 nx w R) : Calls prog 116 ⟨[.int .i64 nx]⟩ w fun e w' => ∃ v, e = .returned v ∧ R v w' :=
  vc_calls mixed (fn := f116) (ann := an116) (by kernel_rfl) ((vcE116 nx w R).symm ▸ hvc)

/- F60: spec.docRight -/
def VC60 (vKind : Int) (vText : List UInt8) (vMore : List UInt8) (vN : Int) (vBits : Int) (vHigh : Int) (vB : Option Addr) (vB_n vB_c : Nat) (vKids : Option Addr) (vKids_n vKids_c : Nat) (deep : Int) (w : World) (R : Value → World → Prop) : Prop :=
  ∀ w1, w1 = w.alloc (.cells ⟨[.int .i64 vKind, .string (mkS vText), .string (mkS vMore), .int .i64 vN, .int .u64 vBits, .int .u64 vHigh, .slice vB vB_n vB_c, .slice vKids vKids_n vKids_c]⟩ 26) → 
  ∃ x9 : Int, w1.cell? ⟨w.heap.size, 0, none⟩ = some (.int .i64 x9) ∧ 
  Calls prog 113 ⟨[.int .i64 x9]⟩ w1 fun e w2 => ∃ x10 : Bool, e = .returned (.bool x10) ∧ 
  ((!x10) = true →
  R (.bool false) w2) ∧ ((!x10) = false →
  (decide (deep = 0) = true →
    R (.bool false) w2) ∧ (decide (deep = 0) = false →
    ∃ x16 : Int, ∃ x16_1 : List UInt8, ∃ x16_2 : List UInt8, ∃ x16_3 : Int, ∃ x16_4 : Int, ∃ x16_5 : Int, ∃ (x16_6 : Option Addr) (x16_6_n x16_6_c : Nat), ∃ (x16_7 : Option Addr) (x16_7_n x16_7_c : Nat), LoadsRow prog 26 w2 ⟨w.heap.size, 0, none⟩ [.int .i64 x16, .string (mkS x16_1), .string (mkS x16_2), .int .i64 x16_3, .int .u64 x16_4, .int .u64 x16_5, .slice x16_6 x16_6_n x16_6_c, .slice x16_7 x16_7_n x16_7_c] ∧ 
      Calls prog 114 ⟨[.agg ⟨[.int .i64 x16, .string (mkS x16_1), .string (mkS x16_2), .int .i64 x16_3, .int .u64 x16_4, .int .u64 x16_5, .slice x16_6 x16_6_n x16_6_c, .slice x16_7 x16_7_n x16_7_c]⟩]⟩ w2 fun e w3 => ∃ x17 : List Value, e = .returned (.agg ⟨x17⟩) ∧ 
      ∀ w4, w4 = w3.alloc (.cells ⟨[.int .i64 0, .string (mkS []), .string (mkS []), .int .i64 0, .int .u64 0, .int .u64 0, .slice none 0 0, .slice none 0 0]⟩ 26) → 
      ∃ w5, (Instr.storeAt 26 (.pointer (some ⟨w3.heap.size, 0, none⟩)) (.agg ⟨x17⟩)).run prog w4 = .ok () w5 ∧ 
      ∃ x19 : List UInt8, w5.cell? ⟨w3.heap.size, 1, none⟩ = some (.string (mkS x19)) ∧ 
      ((!decide (x19 = [])) = true →
      R (.bool false) w5) ∧ ((!decide (x19 = [])) = false →
      ∃ x23 : List UInt8, w5.cell? ⟨w3.heap.size, 2, none⟩ = some (.string (mkS x23)) ∧ 
        ((!decide (x23 = [])) = true →
        R (.bool false) w5) ∧ ((!decide (x23 = [])) = false →
        ∃ x28 : Int, w5.cell? ⟨w3.heap.size, 3, none⟩ = some (.int .i64 x28) ∧ 
          ((!decide (x28 = 0)) = true →
          R (.bool false) w5) ∧ ((!decide (x28 = 0)) = false →
          ∃ x33 : Int, w5.cell? ⟨w3.heap.size, 4, none⟩ = some (.int .u64 x33) ∧ 
            ((!decide (x33 = 0)) = true →
            R (.bool false) w5) ∧ ((!decide (x33 = 0)) = false →
            ∃ x38 : Int, w5.cell? ⟨w3.heap.size, 5, none⟩ = some (.int .u64 x38) ∧ 
              ((!decide (x38 = 0)) = true →
              R (.bool false) w5) ∧ ((!decide (x38 = 0)) = false →
              ∃ (x43 : Option Addr) (x43_n x43_c : Nat), w5.cell? ⟨w3.heap.size, 6, none⟩ = some (.slice x43 x43_n x43_c) ∧ 
                ((!decide ((x43_n : Int) = 0)) = true →
                R (.bool false) w5) ∧ ((!decide ((x43_n : Int) = 0)) = false →
                ∃ (x49 : Option Addr) (x49_n x49_c : Nat), w5.cell? ⟨w3.heap.size, 7, none⟩ = some (.slice x49 x49_n x49_c) ∧ 
                  ((!decide ((x49_n : Int) = 0)) = true →
                  R (.bool false) w5) ∧ ((!decide ((x49_n : Int) = 0)) = false →
                  ∀ Kx : World → Prop, (∀ w6,
                    (∃ Ix : Nat → Int → World → Prop, (∃ m_2, Ix m_2 0 w6) ∧
                      ∀ m, ∀ i : Int, ∀ w7, Ix m i w7 →
                      ∃ (x104 : Option Addr) (x104_n x104_c : Nat), w7.cell? ⟨w.heap.size, 7, none⟩ = some (.slice x104 x104_n x104_c) ∧ 
                        (decide (i < (x104_n : Int)) = true →
                        ∃ (x110 : Option Addr) (x110_n x110_c : Nat), w7.cell? ⟨w.heap.size, 7, none⟩ = some (.slice x110 x110_n x110_c) ∧ 
                          ((0 : Int) ≤ i ∧ i < (x110_n : Int)) ∧ ∃ x110a : Addr, x110 = some x110a ∧ 
                          ∃ x113 : List UInt8, ∃ x113_1 : Int, ∃ x113_2 : List UInt8, ∃ x113_3 : List UInt8, ∃ x113_4 : Int, ∃ x113_5 : Int, ∃ x113_6 : Int, ∃ (x113_7 : Option Addr) (x113_7_n x113_7_c : Nat), ∃ (x113_8 : Option Addr) (x113_8_n x113_8_c : Nat), LoadsRow prog 46 w7 (x110a.add (i.toNat * 9)) [.string (mkS x113), .int .i64 x113_1, .string (mkS x113_2), .string (mkS x113_3), .int .i64 x113_4, .int .u64 x113_5, .int .u64 x113_6, .slice x113_7 x113_7_n x113_7_c, .slice x113_8 x113_8_n x113_8_c] ∧ 
                          ∀ w8, w8 = w7.alloc (.cells ⟨[.string (mkS []), .int .i64 0, .string (mkS []), .string (mkS []), .int .i64 0, .int .u64 0, .int .u64 0, .slice none 0 0, .slice none 0 0]⟩ 46) → 
                          ∃ w9, (Instr.storeAt 46 (.pointer (some ⟨w7.heap.size, 0, none⟩)) (.agg ⟨[.string (mkS x113), .int .i64 x113_1, .string (mkS x113_2), .string (mkS x113_3), .int .i64 x113_4, .int .u64 x113_5, .int .u64 x113_6, .slice x113_7 x113_7_n x113_7_c, .slice x113_8 x113_8_n x113_8_c]⟩)).run prog w8 = .ok () w9 ∧ 
                          ∃ f : List (Addr × Value), Kept w9 f ∧
                          ∃ x115 : List UInt8, (⟨w7.heap.size, 0, none⟩, .string (mkS x115)) ∈ f ∧ 
                          Calls prog 115 ⟨[.string (mkS x115)]⟩ w9.drew fun e w10 => ∃ x116 : Bool, e = .returned (.bool x116) ∧ 
                          Kept w10 f ∧ ((!x116) = true →
                          Kept w10 f ∧ R (.bool false) w10) ∧ ((!x116) = false →
                          ∃ x120 : Int, (⟨w.heap.size, 0, none⟩, .int .i64 x120) ∈ f ∧ 
                            (decide (x120 = 4) = true →
                            ∃ x124 : List UInt8, (⟨w7.heap.size, 0, none⟩, .string (mkS x124)) ∈ f ∧ 
                              Calls prog 116 ⟨[.int .i64 i]⟩ w10 fun e w11 => ∃ x126 : List UInt8, e = .returned (.string (mkS x126)) ∧ 
                              Kept w11 f ∧ ((!decide (x124 = x126)) = true →
                              R (.bool false) w11) ∧ ((!decide (x124 = x126)) = false →
                              ∃ x132 : Int, ∃ x132_1 : List UInt8, ∃ x132_2 : List UInt8, ∃ x132_3 : Int, ∃ x132_4 : Int, ∃ x132_5 : Int, ∃ (x132_6 : Option Addr) (x132_6_n x132_6_c : Nat), ∃ (x132_7 : Option Addr) (x132_7_n x132_7_c : Nat), (cellsOf' prog 26 = some ([.int .i64 x132, .string (mkS x132_1), .string (mkS x132_2), .int .i64 x132_3, .int .u64 x132_4, .int .u64 x132_5, .slice x132_6 x132_6_n x132_6_c, .slice x132_7 x132_7_n x132_7_c] : List Value).length ∧ ∀ i v, ([.int .i64 x132, .string (mkS x132_1), .string (mkS x132_2), .int .i64 x132_3, .int .u64 x132_4, .int .u64 x132_5, .slice x132_6 x132_6_n x132_6_c, .slice x132_7 x132_7_n x132_7_c] : List Value)[i]? = some v → ((⟨w7.heap.size, 1, none⟩ : Addr).add i, v) ∈ f) ∧ 
                                ∃ x134 : Int, IntKind.i64.wrap (deep - 1) = x134 ∧ 
                                Calls prog 60 ⟨[.agg ⟨[.int .i64 x132, .string (mkS x132_1), .string (mkS x132_2), .int .i64 x132_3, .int .u64 x132_4, .int .u64 x132_5, .slice x132_6 x132_6_n x132_6_c, .slice x132_7 x132_7_n x132_7_c]⟩, .int .i64 x134]⟩ w11 fun e w12 => ∃ x135 : Bool, e = .returned (.bool x135) ∧ 
                                ((!x135) = true →
                                R (.bool false) w12) ∧ ((!x135) = false →
                                ∃ x108 : Int, IntKind.i64.wrap (i + 1) = x108 ∧ 
                                  ∃ m_1, m_1 < m ∧ Ix m_1 x108 w12))) ∧ (decide (x120 = 4) = false →
                            Kept w10 f ∧ ∃ x132_8 : Int, ∃ x132_9 : List UInt8, ∃ x132_10 : List UInt8, ∃ x132_11 : Int, ∃ x132_12 : Int, ∃ x132_13 : Int, ∃ (x132_14 : Option Addr) (x132_14_n x132_14_c : Nat), ∃ (x132_15 : Option Addr) (x132_15_n x132_15_c : Nat), (cellsOf' prog 26 = some ([.int .i64 x132_8, .string (mkS x132_9), .string (mkS x132_10), .int .i64 x132_11, .int .u64 x132_12, .int .u64 x132_13, .slice x132_14 x132_14_n x132_14_c, .slice x132_15 x132_15_n x132_15_c] : List Value).length ∧ ∀ i v, ([.int .i64 x132_8, .string (mkS x132_9), .string (mkS x132_10), .int .i64 x132_11, .int .u64 x132_12, .int .u64 x132_13, .slice x132_14 x132_14_n x132_14_c, .slice x132_15 x132_15_n x132_15_c] : List Value)[i]? = some v → ((⟨w7.heap.size, 1, none⟩ : Addr).add i, v) ∈ f) ∧ 
                              ∃ x134_1 : Int, IntKind.i64.wrap (deep - 1) = x134_1 ∧ 
                              Calls prog 60 ⟨[.agg ⟨[.int .i64 x132_8, .string (mkS x132_9), .string (mkS x132_10), .int .i64 x132_11, .int .u64 x132_12, .int .u64 x132_13, .slice x132_14 x132_14_n x132_14_c, .slice x132_15 x132_15_n x132_15_c]⟩, .int .i64 x134_1]⟩ w10 fun e w13 => ∃ x135_1 : Bool, e = .returned (.bool x135_1) ∧ 
                              ((!x135_1) = true →
                              R (.bool false) w13) ∧ ((!x135_1) = false →
                              ∃ x108_1 : Int, IntKind.i64.wrap (i + 1) = x108_1 ∧ 
                                ∃ m_1, m_1 < m ∧ Ix m_1 x108_1 w13)))) ∧ (decide (i < (x104_n : Int)) = false →
                        R (.bool true) w7)) → Kx w6) →
                    ∃ x54 : Int, w5.cell? ⟨w.heap.size, 0, none⟩ = some (.int .i64 x54) ∧ 
                    (decide (x54 = 5) = true →
                    ∃ x58 : Int, w5.cell? ⟨w.heap.size, 3, none⟩ = some (.int .i64 x58) ∧ 
                      (decide (0 ≤ x58) = true →
                      ∃ x62 : Int, w5.cell? ⟨w.heap.size, 3, none⟩ = some (.int .i64 x62) ∧ 
                        R (.bool (decide (x62 ≤ 255))) w5) ∧ (decide (0 ≤ x58) = false →
                      R (.bool false) w5)) ∧ (decide (x54 = 5) = false →
                    ∀ Kx_1 : Bool → World → Prop, (∀ x65 : Bool, ∀ w14,
                      ((x65 = true →
                        ∃ (x69 : Option Addr) (x69_n x69_c : Nat), w14.cell? ⟨w.heap.size, 6, none⟩ = some (.slice x69 x69_n x69_c) ∧ 
                          R (.bool (decide ((x69_n : Int) = 12))) w14) ∧ (x65 = false →
                        (decide (x54 = 8) = true →
                          ∃ x75 : Int, w14.cell? ⟨w.heap.size, 3, none⟩ = some (.int .i64 x75) ∧ 
                            (decide (x75 = 0) = true →
                            R (.bool true) w14) ∧ (decide (x75 = 0) = false →
                            ∃ x79 : Int, w14.cell? ⟨w.heap.size, 3, none⟩ = some (.int .i64 x79) ∧ 
                              R (.bool (decide (x79 = 1))) w14)) ∧ (decide (x54 = 8) = false →
                          (decide (x54 = 16) = true →
                            ∃ x85 : Int, w14.cell? ⟨w.heap.size, 3, none⟩ = some (.int .i64 x85) ∧ 
                              (decide ((-2147483648) ≤ x85) = true →
                              ∃ x89 : Int, w14.cell? ⟨w.heap.size, 3, none⟩ = some (.int .i64 x89) ∧ 
                                R (.bool (decide (x89 < 2147483648))) w14) ∧ (decide ((-2147483648) ≤ x85) = false →
                              R (.bool false) w14)) ∧ (decide (x54 = 16) = false →
                            (decide (x54 = 11) = true →
                              ∃ x95 : List UInt8, w14.cell? ⟨w.heap.size, 1, none⟩ = some (.string (mkS x95)) ∧ 
                                Calls prog 115 ⟨[.string (mkS x95)]⟩ w14 fun e w15 => ∃ x96 : Bool, e = .returned (.bool x96) ∧ 
                                (x96 = true →
                                ∃ x99 : List UInt8, w15.cell? ⟨w.heap.size, 2, none⟩ = some (.string (mkS x99)) ∧ 
                                  Calls prog 115 ⟨[.string (mkS x99)]⟩ w15 fun e w16 => ∃ x100 : Bool, e = .returned (.bool x100) ∧ 
                                  R (.bool x100) w16) ∧ (x96 = false →
                                R (.bool false) w15)) ∧ (decide (x54 = 11) = false →
                              Kx w14))))) → Kx_1 x65 w14) →
                      (decide (x54 = 7) = true →
                      Kx_1 (decide (x54 = 7)) w5) ∧ (decide (x54 = 7) = false →
                      Kx_1 (decide (x54 = 12)) w5)))))))))))
def an60 : Ann :=
  .seq (.reg (.text []))
  (.seq (.seq (.reg (.text [.p .n, .p (.sh [.int .i64]), .p (.sh [.bool]), .p .n, .p .n, .gs .n 1 2]))
  (.on 2 (.cond 3 4 (.seq (.reg (.text []))
  .leaf) .leaf) (.yes (.seq (.reg (.text []))
  .leaf))))
  (.seq (.reg (.text [.p (.sh [.int .i64, .str, .str, .int .i64, .int .u64, .int .u64, .slice, .slice]), .p (.sh [.agg])]))
  (.seq (.seq (.reg (.text [.p .n, .p (.sh [.str]), .p .n, .p .n, .gs .n 5 6, .on 6 (.p (.sh [.str])) (.p .n), .p .n, .p .n, .p .n, .on 6 (.gs .n 7 8) (.p .n), .on 8 (.p (.sh [.int .i64])) (.p .n), .p .n, .p .n, .p .n, .on 8 (.gs .n 9 10) (.p .n), .on 10 (.p (.sh [.int .u64])) (.p .n), .p .n, .p .n, .p .n, .on 10 (.gs .n 11 12) (.p .n), .on 12 (.p (.sh [.int .u64])) (.p .n), .p .n, .p .n, .p .n, .on 12 (.gs .n 13 14) (.p .n), .on 14 (.p (.sh [.slice])) (.p .n), .p .n, .p .n, .p .n, .p .n, .on 14 (.gs .n 15 16) (.p .n), .on 16 (.p (.sh [.slice])) (.p .n)]))
  (.on 16 (.cond 17 18 (.seq (.reg (.text []))
  .leaf) .leaf) (.yes (.seq (.reg (.text []))
  .leaf))))
  (.cut [] [1, 2] (.seq (.reg (.text [.p .n, .p (.sh [.int .i64])]))
  (.block (.seq (.reg (.text []))
  (.cond 29 30 (.seq (.reg (.text [.p .n, .p (.sh [.int .i64]), .p .n, .p .n, .gs .n 31 32, .on 32 (.p .n) (.p (.sh [.int .i64]))]))
  .leaf) (.cut [(65, .bool)] [1, 2, 54] (.seq (.reg (.text []))
  (.cond 47 48 .leaf (.reg (.text []))))
  (.cond 33 34 (.seq (.reg (.text [.p .n, .p (.sh [.slice])]))
  .leaf) (.seq (.reg (.text []))
  (.cond 35 36 (.seq (.reg (.text [.p .n, .p (.sh [.int .i64]), .p .n, .p .n, .gs .n 37 38, .on 38 (.p (.sh [.int .i64])) (.p .n)]))
  .leaf) (.seq (.reg (.text []))
  (.cond 39 40 (.seq (.reg (.text [.p .n, .p (.sh [.int .i64]), .p .n, .p .n, .gs .n 41 42, .on 42 (.p .n) (.p (.sh [.int .i64]))]))
  .leaf) (.seq (.reg (.text []))
  (.cond 43 44 (.seq (.reg (.text [.p .n, .p (.sh [.str]), .p (.sh [.bool]), .p .n, .gs .n 45 46, .on 46 (.p .n) (.p (.sh [.str])), .on 46 (.p .n) (.p (.sh [.bool]))]))
  .leaf) .leaf))))))))))))
  (.seq (.seq (.reg (.text []))
  (.block (.loop [(6, .int .i64)] [1, 2] (.seq (.seq (.reg (.text [.p .n, .p .n, .p (.sh [.slice])]))
  (.cond 19 20 .leaf .leaf))
  (.seq (.block (.seq (.reg (.text [.p .n, .p (.sh [.slice]), .p .n, .p (.sh []), .p (.sh [.str, .int .i64, .str, .str, .int .i64, .int .u64, .int .u64, .slice, .slice])]))
  (.seq (.reg (.held [21] (.take 0 (.p .n) (.take 1 (.p (.sh [.str])) (.run 2 (.p (.sh [.bool])) (.take 3 (.p .n) (.take 4 (.p .n) (.take 5 (.gs .n 21 22) (.take 6 (.on 22 (.p (.sh [.int .i64])) (.p .n)) (.take 7 (.p .n) (.take 8 (.p .n) (.take 9 (.on 22 (.gs .n 23 24) (.p .n)) (.take 10 (.on 23 (.p (.sh [.str])) (.p .n)) (.take 11 (.p .n) (.run 12 (.on 23 (.p (.sh [.str])) (.p .n)) (.take 13 (.p .n) (.take 14 (.p .n) (.take 15 (.p .n) (.take 16 (.p .n) (.take 17 (.on 23 (.gs .n 25 26) (.p .n)) (.take 18 (.on 24 (.p (.sh [.int .i64, .str, .str, .int .i64, .int .u64, .int .u64, .slice, .slice])) (.on 26 (.p (.sh [.int .i64, .str, .str, .int .i64, .int .u64, .int .u64, .slice, .slice])) (.p .n))) (.take 19 (.p .n) (.take 20 (.p .n) (.run 21 (.on 24 (.p (.sh [.bool])) (.on 26 (.p (.sh [.bool])) (.p .n))) (.take 22 (.p .n) (.take 23 (.p .n) .done)) .done))))))))) .done)))))))))) .done)))))
  (.on 24 (.cond 27 28 (.seq (.reg (.text []))
  .leaf) .leaf) (.on 26 (.cond 27 28 (.seq (.reg (.text []))
  .leaf) .leaf) (.yes (.seq (.reg (.text []))
  .leaf)))))))
  (.reg (.text [])))))))
  (.seq (.reg (.text []))
  .leaf))))))
theorem vcE60 (vKind : Int) (vText : List UInt8) (vMore : List UInt8) (vN : Int) (vBits : Int) (vHigh : Int) (vB : Option Addr) (vB_n vB_c : Nat) (vKids : Option Addr) (vKids_n vKids_c : Nat) (deep : Int) (w : World) (R : Value → World → Prop) : vcFn prog f60 an60 [.agg ⟨[.int .i64 vKind, .string (mkS vText), .string (mkS vMore), .int .i64 vN, .int .u64 vBits, .int .u64 vHigh, .slice vB vB_n vB_c, .slice vKids vKids_n vKids_c]⟩, .int .i64 deep] w R = VC60 vKind vText vMore vN vBits vHigh vB vB_n vB_c vKids vKids_n vKids_c deep w R := by kernel_rfl
theorem c60 (vKind : Int) (vText : List UInt8) (vMore : List UInt8) (vN : Int) (vBits : Int) (vHigh : Int) (vB : Option Addr) (vB_n vB_c : Nat) (vKids : Option Addr) (vKids_n vKids_c : Nat) (deep : Int) (w : World) (R : Value → World → Prop) (hvc : VC60 vKind vText vMore vN vBits vHigh vB vB_n vB_c vKids vKids_n vKids_c deep w R) : Calls prog 60 ⟨[.agg ⟨[.int .i64 vKind, .string (mkS vText), .string (mkS vMore), .int .i64 vN, .int .u64 vBits, .int .u64 vHigh, .slice vB vB_n vB_c, .slice vKids vKids_n vKids_c]⟩, .int .i64 deep]⟩ w fun e w' => ∃ v, e = .returned v ∧ R v w' :=
  vc_calls mixed (fn := f60) (ann := an60) (by kernel_rfl) ((vcE60 vKind vText vMore vN vBits vHigh vB vB_n vB_c vKids vKids_n vKids_c deep w R).symm ▸ hvc)

/- F21: laws.extCounts -/
def VC21 (xKind : Int) (xText : List UInt8) (xMore : List UInt8) (xN : Int) (xBits : Int) (xHigh : Int) (xB : Option Addr) (xB_n xB_c : Nat) (xKids : Option Addr) (xKids_n xKids_c : Nat) (deep : Int) (left : Addr) (w : World) (R : Value → World → Prop) : Prop :=
  ∀ w1, w1 = w.alloc (.cells ⟨[.int .i64 xKind, .string (mkS xText), .string (mkS xMore), .int .i64 xN, .int .u64 xBits, .int .u64 xHigh, .slice xB xB_n xB_c, .slice xKids xKids_n xKids_c]⟩ 26) → 
  ∃ x13 : Int, w1.cell? left = some (.int .i64 x13) ∧ 
  ∃ x14 : Int, IntKind.i64.wrap (x13 - 1) = x14 ∧ 
  CanStore w1 left (.int .i64 x14) ∧ ∀ w2, w2 = w1.setCell left (.int .i64 x14) → 
  ∃ x18 : Int, w2.cell? left = some (.int .i64 x18) ∧ 
  (decide (x18 < 0) = true →
  R (.bool false) w2) ∧ (decide (x18 < 0) = false →
  (decide (deep = 0) = true →
    R (.bool false) w2) ∧ (decide (deep = 0) = false →
    ∃ x26 : List UInt8, w2.cell? ⟨w.heap.size, 1, none⟩ = some (.string (mkS x26)) ∧ 
      Calls prog 56 ⟨[.string (mkS x26)]⟩ w2 fun e w3 => ∃ x27 : Bool, e = .returned (.bool x27) ∧ 
      ((!x27) = true →
      R (.bool false) w3) ∧ ((!x27) = false →
      ∃ x32 : List UInt8, w3.cell? ⟨w.heap.size, 2, none⟩ = some (.string (mkS x32)) ∧ 
        Calls prog 56 ⟨[.string (mkS x32)]⟩ w3 fun e w4 => ∃ x33 : Bool, e = .returned (.bool x33) ∧ 
        ((!x33) = true →
        R (.bool false) w4) ∧ ((!x33) = false →
        ∃ (x38 : Option Addr) (x38_n x38_c : Nat), w4.cell? ⟨w.heap.size, 6, none⟩ = some (.slice x38 x38_n x38_c) ∧ 
          (decide (300 < (x38_n : Int)) = true →
          R (.bool false) w4) ∧ (decide (300 < (x38_n : Int)) = false →
          ∀ Kx : World → Prop, (∀ w5,
            (∃ (x114 : Option Addr) (x114_n x114_c : Nat), w5.cell? ⟨w.heap.size, 7, none⟩ = some (.slice x114 x114_n x114_c) ∧ 
              ∃ Ix : Nat → Int → World → Prop, (∃ m_2, Ix m_2 0 w5) ∧
              ∀ m, ∀ x116 : Int, ∀ w6, Ix m x116 w6 →
              (decide (x116 < (x114_n : Int)) = true →
                ((0 : Int) ≤ x116 ∧ x116 < (x114_n : Int)) ∧ ∃ x114a : Addr, x114 = some x114a ∧ 
                  ∃ x119 : List UInt8, ∃ x119_1 : Int, ∃ x119_2 : List UInt8, ∃ x119_3 : List UInt8, ∃ x119_4 : Int, ∃ x119_5 : Int, ∃ x119_6 : Int, ∃ (x119_7 : Option Addr) (x119_7_n x119_7_c : Nat), ∃ (x119_8 : Option Addr) (x119_8_n x119_8_c : Nat), LoadsRow prog 46 w6 (x114a.add (x116.toNat * 9)) [.string (mkS x119), .int .i64 x119_1, .string (mkS x119_2), .string (mkS x119_3), .int .i64 x119_4, .int .u64 x119_5, .int .u64 x119_6, .slice x119_7 x119_7_n x119_7_c, .slice x119_8 x119_8_n x119_8_c] ∧ 
                  ∀ w7, w7 = w6.alloc (.cells ⟨[.string (mkS []), .int .i64 0, .string (mkS []), .string (mkS []), .int .i64 0, .int .u64 0, .int .u64 0, .slice none 0 0, .slice none 0 0]⟩ 46) → 
                  ∃ w8, (Instr.storeAt 46 (.pointer (some ⟨w6.heap.size, 0, none⟩)) (.agg ⟨[.string (mkS x119), .int .i64 x119_1, .string (mkS x119_2), .string (mkS x119_3), .int .i64 x119_4, .int .u64 x119_5, .int .u64 x119_6, .slice x119_7 x119_7_n x119_7_c, .slice x119_8 x119_8_n x119_8_c]⟩)).run prog w7 = .ok () w8 ∧ 
                  ∃ x121 : List UInt8, w8.cell? ⟨w6.heap.size, 0, none⟩ = some (.string (mkS x121)) ∧ 
                  Calls prog 56 ⟨[.string (mkS x121)]⟩ w8 fun e w9 => ∃ x122 : Bool, e = .returned (.bool x122) ∧ 
                  ((!x122) = true →
                  R (.bool false) w9) ∧ ((!x122) = false →
                  ∃ x126 : List UInt8, w9.cell? ⟨w6.heap.size, 0, none⟩ = some (.string (mkS x126)) ∧ 
                    ((!decide (x126 = [])) = true →
                    ∃ x130 : List UInt8, w9.cell? ⟨w6.heap.size, 0, none⟩ = some (.string (mkS x130)) ∧ 
                      ∃ x131 : UInt8, ((0 : Int) ≤ 0 ∧ x130[0]? = some x131) ∧ 
                      (decide ((x131.toNat : Int) = 36) = true →
                      R (.bool false) w9) ∧ (decide ((x131.toNat : Int) = 36) = false →
                      ∃ x137 : Int, ∃ x137_1 : List UInt8, ∃ x137_2 : List UInt8, ∃ x137_3 : Int, ∃ x137_4 : Int, ∃ x137_5 : Int, ∃ (x137_6 : Option Addr) (x137_6_n x137_6_c : Nat), ∃ (x137_7 : Option Addr) (x137_7_n x137_7_c : Nat), LoadsRow prog 26 w9 ⟨w6.heap.size, 1, none⟩ [.int .i64 x137, .string (mkS x137_1), .string (mkS x137_2), .int .i64 x137_3, .int .u64 x137_4, .int .u64 x137_5, .slice x137_6 x137_6_n x137_6_c, .slice x137_7 x137_7_n x137_7_c] ∧ 
                        ∃ x139 : Int, IntKind.i64.wrap (deep - 1) = x139 ∧ 
                        Calls prog 21 ⟨[.agg ⟨[.int .i64 x137, .string (mkS x137_1), .string (mkS x137_2), .int .i64 x137_3, .int .u64 x137_4, .int .u64 x137_5, .slice x137_6 x137_6_n x137_6_c, .slice x137_7 x137_7_n x137_7_c]⟩, .int .i64 x139, .pointer (some left)]⟩ w9 fun e w10 => ∃ x141 : Bool, e = .returned (.bool x141) ∧ 
                        ((!x141) = true →
                        R (.bool false) w10) ∧ ((!x141) = false →
                        ∃ x144 : Int, IntKind.i64.wrap (x116 + 1) = x144 ∧ 
                          ∃ m_1, m_1 < m ∧ Ix m_1 x144 w10))) ∧ ((!decide (x126 = [])) = false →
                    ∃ x137_8 : Int, ∃ x137_9 : List UInt8, ∃ x137_10 : List UInt8, ∃ x137_11 : Int, ∃ x137_12 : Int, ∃ x137_13 : Int, ∃ (x137_14 : Option Addr) (x137_14_n x137_14_c : Nat), ∃ (x137_15 : Option Addr) (x137_15_n x137_15_c : Nat), LoadsRow prog 26 w9 ⟨w6.heap.size, 1, none⟩ [.int .i64 x137_8, .string (mkS x137_9), .string (mkS x137_10), .int .i64 x137_11, .int .u64 x137_12, .int .u64 x137_13, .slice x137_14 x137_14_n x137_14_c, .slice x137_15 x137_15_n x137_15_c] ∧ 
                      ∃ x139_1 : Int, IntKind.i64.wrap (deep - 1) = x139_1 ∧ 
                      Calls prog 21 ⟨[.agg ⟨[.int .i64 x137_8, .string (mkS x137_9), .string (mkS x137_10), .int .i64 x137_11, .int .u64 x137_12, .int .u64 x137_13, .slice x137_14 x137_14_n x137_14_c, .slice x137_15 x137_15_n x137_15_c]⟩, .int .i64 x139_1, .pointer (some left)]⟩ w9 fun e w11 => ∃ x141_1 : Bool, e = .returned (.bool x141_1) ∧ 
                      ((!x141_1) = true →
                      R (.bool false) w11) ∧ ((!x141_1) = false →
                      ∃ x144_1 : Int, IntKind.i64.wrap (x116 + 1) = x144_1 ∧ 
                        ∃ m_1, m_1 < m ∧ Ix m_1 x144_1 w11)))) ∧ (decide (x116 < (x114_n : Int)) = false →
                R (.bool true) w6)) → Kx w5) →
            ∃ x43 : Int, w4.cell? ⟨w.heap.size, 0, none⟩ = some (.int .i64 x43) ∧ 
            (decide (x43 = 1) = true →
            ∃ x47 : Int, w4.cell? ⟨w.heap.size, 4, none⟩ = some (.int .u64 x47) ∧ 
              ∃ x48 : Nat, ∃ w12, (callFunc 26 ⟨[.int .u64 x47]⟩).run prog w4 = .ok (.value (.float .f64 x48)) w12 ∧ 
              ∃ f : List (Addr × Value), Kept w12 f ∧
              ((FloatKind.f64.format.order x48 x48 != some .eq) = true →
              ∃ x54 : Int, (⟨w.heap.size, 4, none⟩, .int .u64 x54) ∈ f ∧ 
                Calls prog 58 ⟨[]⟩ w12.drew fun e w13 => ∃ x55 : Nat, e = .returned (.float .f64 x55) ∧ 
                Kept w13 f ∧ ∃ x56 : Int, ∃ w14, (callFunc 57 ⟨[.float .f64 x55]⟩).run prog w13 = .ok (.value (.int .u64 x56)) w14 ∧ 
                Kept w14 f ∧ ((!decide (x54 = x56)) = true →
                R (.bool false) w14) ∧ ((!decide (x54 = x56)) = false →
                Kx w14)) ∧ ((FloatKind.f64.format.order x48 x48 != some .eq) = false →
              Kept w12.drew f ∧ Kept w12.drew f ∧ Kx w12.drew)) ∧ (decide (x43 = 1) = false →
            (decide (x43 = 12) = true →
              ∃ f_1 : List (Addr × Value), Kept w4 f_1 ∧
                ∃ x62 : List UInt8, (⟨w.heap.size, 1, none⟩, .string (mkS x62)) ∈ f_1 ∧ 
                ∃ x65 : List UInt8, (⟨w.heap.size, 1, none⟩, .string (mkS x65)) ∈ f_1 ∧ 
                [34].length + x65.length ≤ 9223372036854775807 ∧ 
                ([34] ++ x65).length + [34].length ≤ 9223372036854775807 ∧ 
                Calls prog 24 ⟨[.string (mkS x62), .bool true]⟩ w4.drew fun e w15 => ∃ x63 : List UInt8, e = .returned (.string (mkS x63)) ∧ 
                Kept w15 f_1 ∧ ((!decide (x63 = (([34] ++ x65) ++ [34]))) = true →
                R (.bool false) w15) ∧ ((!decide (x63 = (([34] ++ x65) ++ [34]))) = false →
                Kx w15)) ∧ (decide (x43 = 12) = false →
              (decide (x43 = 19) = true →
                ∃ x72 : Int, w4.cell? ⟨w.heap.size, 5, none⟩ = some (.int .u64 x72) ∧ 
                  ∃ x74 : Int, w4.cell? ⟨w.heap.size, 4, none⟩ = some (.int .u64 x74) ∧ 
                  Calls prog 59 ⟨[.int .u64 x72, .int .u64 x74]⟩ w4 fun e w16 => ∃ x75 : Bool, e = .returned (.bool x75) ∧ 
                  ((!x75) = true →
                  R (.bool false) w16) ∧ ((!x75) = false →
                  Kx w16)) ∧ (decide (x43 = 19) = false →
                (decide (x43 = 11) = true →
                  ∃ x80 : List UInt8, w4.cell? ⟨w.heap.size, 2, none⟩ = some (.string (mkS x80)) ∧ 
                    ∀ w17, w17 = w4.alloc (.stringIter (mkS x80) 0) → 
                    ∃ Ix_1 : Nat → World → Prop, (∃ m_5, Ix_1 m_5 w17) ∧
                    ∀ m_3, ∀ w18, Ix_1 m_3 w18 →
                    ∃ (str : List UInt8) (pos : Nat), w18.heap[w4.heap.size]? = some (.stringIter (mkS str) pos) ∧
                      (pos < str.length → ∀ w19 : World, w19 = { w18 with heap := w18.heap.setIfInBounds w4.heap.size (.stringIter (mkS str) (pos + (Utf8.decode (mkS str) pos).2)) } →
                      ∃ x86 : List UInt8, w19.drew.cell? ⟨w.heap.size, 2, none⟩ = some (.string (mkS x86)) ∧ 
                        ∃ x88 : UInt8, ((0 : Int) ≤ (pos : Int) ∧ x86[(pos : Int).toNat]? = some x88) ∧ 
                        (decide ((x88.toNat : Int) < 97) = true →
                        R (.bool false) w19.drew) ∧ (decide ((x88.toNat : Int) < 97) = false →
                        ∃ x92 : List UInt8, w19.drew.cell? ⟨w.heap.size, 2, none⟩ = some (.string (mkS x92)) ∧ 
                          ∃ x94 : UInt8, ((0 : Int) ≤ (pos : Int) ∧ x92[(pos : Int).toNat]? = some x94) ∧ 
                          (decide (122 < (x94.toNat : Int)) = true →
                          R (.bool false) w19.drew) ∧ (decide (122 < (x94.toNat : Int)) = false →
                          (decide (0 < (pos : Int)) = true →
                            ∃ x102 : List UInt8, w19.drew.cell? ⟨w.heap.size, 2, none⟩ = some (.string (mkS x102)) ∧ 
                              ∃ x104 : UInt8, ((0 : Int) ≤ (pos : Int) ∧ x102[(pos : Int).toNat]? = some x104) ∧ 
                              ∃ x106 : List UInt8, w19.drew.cell? ⟨w.heap.size, 2, none⟩ = some (.string (mkS x106)) ∧ 
                              ∃ x108 : Int, IntKind.i64.wrap ((pos : Int) - 1) = x108 ∧ 
                              ∃ x109 : UInt8, ((0 : Int) ≤ x108 ∧ x106[x108.toNat]? = some x109) ∧ 
                              (decide ((x104.toNat : Int) < (x109.toNat : Int)) = true →
                              R (.bool false) w19.drew) ∧ (decide ((x104.toNat : Int) < (x109.toNat : Int)) = false →
                              ∃ m_4, m_4 < m_3 ∧ Ix_1 m_4 w19.drew)) ∧ (decide (0 < (pos : Int)) = false →
                            ∃ m_4, m_4 < m_3 ∧ Ix_1 m_4 w19.drew)))) ∧ (¬ pos < str.length →
                      Kx w18)) ∧ (decide (x43 = 11) = false →
                  Kx w4)))))))))
def an21 : Ann :=
  .seq (.reg (.text []))
  (.seq (.reg (.text [.p .n, .p .n, .p (.sh [.int .i64])]))
  (.seq (.seq (.reg (.text [.p .n, .p .n, .p (.sh [.int .i64]), .p .n, .p .n, .gs .n 1 2, .p .n, .p .n, .p .n, .on 2 (.gs .n 3 4) (.p .n), .on 4 (.p (.sh [.str])) (.p .n), .on 4 (.p (.sh [.bool])) (.p .n), .p .n, .p .n, .p .n, .on 4 (.gs .n 5 6) (.p .n), .on 6 (.p (.sh [.str])) (.p .n), .on 6 (.p (.sh [.bool])) (.p .n), .p .n, .p .n, .p .n, .on 6 (.gs .n 7 8) (.p .n), .on 8 (.p (.sh [.slice])) (.p .n)]))
  (.on 8 (.cond 9 10 (.seq (.reg (.text []))
  .leaf) .leaf) (.yes (.seq (.reg (.text []))
  .leaf))))
  (.cut [] [1, 2, 3] (.seq (.reg (.text [.p .n, .p (.sh [.int .i64])]))
  (.block (.seq (.reg (.text []))
  (.cond 21 22 (.seq (.reg (.text [.p .n, .p (.sh [.int .u64]), .p (.sh [.float])]))
  (.seq (.reg (.held [] (.take 0 (.p .n) (.take 1 (.p .n) (.take 2 (.p .n) (.take 3 (.p .n) (.take 4 (.gs .n 23 24) (.take 5 (.on 24 (.p .n) (.p (.sh [.int .u64]))) (.run 6 (.on 24 (.p .n) (.p (.sh [.float]))) (.run 7 (.on 24 (.p .n) (.p (.sh [.int .u64]))) (.take 8 (.p .n) (.take 9 (.p .n) .done)) .done) .done)))))))))
  (.on 24 (.no .leaf) (.cond 25 26 (.seq (.reg (.text []))
  .leaf) .leaf)))) (.seq (.reg (.text []))
  (.cond 27 28 (.seq (.reg (.held [] (.take 0 (.p .n) (.take 1 (.p (.sh [.str])) (.take 3 (.p .n) (.take 4 (.p (.sh [.str])) (.take 5 (.p .n) (.take 6 (.p .n) (.run 2 (.p (.sh [.str])) (.take 7 (.p .n) .done) .done)))))))))
  (.cond 29 30 (.seq (.reg (.text []))
  .leaf) .leaf)) (.seq (.reg (.text []))
  (.cond 31 32 (.seq (.reg (.text [.p .n, .p (.sh [.int .u64]), .p .n, .p (.sh [.int .u64]), .p (.sh [.bool])]))
  (.cond 33 34 (.seq (.reg (.text []))
  .leaf) .leaf)) (.seq (.reg (.text []))
  (.cond 35 36 (.seq (.reg (.text [.p .n, .p (.sh [.str])]))
  (.block (.loop [] [1, 2, 3, 81] (.seq (.reg (.text [.nx 37 38]))
  (.seq (.on 38 (.no .leaf) (.yes .leaf))
  (.block (.seq (.reg (.text []))
  (.seq (.reg (.loads (.take 0 (.p .n) (.take 1 (.p (.sh [.str])) (.take 2 (.p .n) (.take 3 (.p .n) (.take 4 (.p .n) (.take 5 (.p .n) (.take 6 (.gs .n 39 40) (.take 7 (.on 40 (.p (.sh [.str])) (.p .n)) (.take 8 (.p .n) (.take 9 (.p .n) (.take 10 (.p .n) (.take 11 (.p .n) (.take 12 (.p .n) (.take 13 (.on 40 (.gs .n 41 42) (.p .n)) (.take 14 (.p .n) (.take 15 (.p .n) (.take 16 (.on 42 (.gs .n 43 44) (.p .n)) (.take 17 (.on 43 (.p (.sh [.str])) (.p .n)) (.take 18 (.p .n) (.take 19 (.p .n) (.take 20 (.p .n) (.take 21 (.on 43 (.p (.sh [.str])) (.p .n)) (.take 22 (.p .n) (.take 23 (.p .n) (.take 24 (.p .n) (.take 25 (.p .n) (.take 26 (.p .n) (.take 27 (.p .n) .done))))))))))))))))))))))))))))))
  (.on 44 (.no .leaf) (.on 43 (.cond 45 46 (.seq (.reg (.text []))
  .leaf) .leaf) (.yes (.seq (.reg (.text []))
  .leaf)))))))))))) .leaf))))))))))
  (.seq (.seq (.reg (.text [.p .n, .p (.sh [.slice])]))
  (.block (.loop [(116, .int .i64)] [1, 2, 114, 115] (.seq (.reg (.text []))
  (.seq (.cond 11 12 .leaf .leaf)
  (.seq (.block (.seq (.reg (.text [.p (.sh []), .p (.sh [.str, .int .i64, .str, .str, .int .i64, .int .u64, .int .u64, .slice, .slice])]))
  (.seq (.reg (.text [.p .n, .p (.sh [.str]), .p (.sh [.bool]), .p .n, .p .n, .gs .n 13 14, .on 14 (.p (.sh [.str])) (.p .n), .p .n, .p .n, .on 14 (.gs .n 15 16) (.p .n), .on 15 (.p (.sh [.str])) (.p .n), .p .n, .p .n, .p .n, .p .n, .p .n, .on 15 (.gs .n 17 18) (.p .n), .on 16 (.p (.sh [.int .i64, .str, .str, .int .i64, .int .u64, .int .u64, .slice, .slice])) (.on 18 (.p (.sh [.int .i64, .str, .str, .int .i64, .int .u64, .int .u64, .slice, .slice])) (.p .n)), .p .n, .p .n, .p .n, .on 16 (.p (.sh [.bool])) (.on 18 (.p (.sh [.bool])) (.p .n))]))
  (.on 16 (.cond 19 20 (.seq (.reg (.text []))
  .leaf) .leaf) (.on 18 (.cond 19 20 (.seq (.reg (.text []))
  .leaf) .leaf) (.yes (.seq (.reg (.text []))
  .leaf)))))))
  (.reg (.text []))))))))
  (.seq (.reg (.text []))
  .leaf)))))
theorem vcE21 (xKind : Int) (xText : List UInt8) (xMore : List UInt8) (xN : Int) (xBits : Int) (xHigh : Int) (xB : Option Addr) (xB_n xB_c : Nat) (xKids : Option Addr) (xKids_n xKids_c : Nat) (deep : Int) (left : Addr) (w : World) (R : Value → World → Prop) : vcFn prog f21 an21 [.agg ⟨[.int .i64 xKind, .string (mkS xText), .string (mkS xMore), .int .i64 xN, .int .u64 xBits, .int .u64 xHigh, .slice xB xB_n xB_c, .slice xKids xKids_n xKids_c]⟩, .int .i64 deep, .pointer (some left)] w R = VC21 xKind xText xMore xN xBits xHigh xB xB_n xB_c xKids xKids_n xKids_c deep left w R := by kernel_rfl
theorem c21 (xKind : Int) (xText : List UInt8) (xMore : List UInt8) (xN : Int) (xBits : Int) (xHigh : Int) (xB : Option Addr) (xB_n xB_c : Nat) (xKids : Option Addr) (xKids_n xKids_c : Nat) (deep : Int) (left : Addr) (w : World) (R : Value → World → Prop) (hvc : VC21 xKind xText xMore xN xBits xHigh xB xB_n xB_c xKids xKids_n xKids_c deep left w R) : Calls prog 21 ⟨[.agg ⟨[.int .i64 xKind, .string (mkS xText), .string (mkS xMore), .int .i64 xN, .int .u64 xBits, .int .u64 xHigh, .slice xB xB_n xB_c, .slice xKids xKids_n xKids_c]⟩, .int .i64 deep, .pointer (some left)]⟩ w fun e w' => ∃ v, e = .returned v ∧ R v w' :=
  vc_calls mixed (fn := f21) (ann := an21) (by kernel_rfl) ((vcE21 xKind xText xMore xN xBits xHigh xB xB_n xB_c xKids xKids_n xKids_c deep left w R).symm ▸ hvc)

/- F59: laws.decFits -/
def VC59 (hi : Int) (lo : Int) (w : World) (R : Value → World → Prop) : Prop :=
  Calls prog 38 ⟨[.int .u64 hi, .int .u64 lo]⟩ w fun e w1 => ∃ x10 : List Value, e = .returned (.agg ⟨x10⟩) ∧ 
  ∀ w2, w2 = w1.alloc (.cells ⟨[.int .i64 0, .bool false, .string (mkS []), .int .i64 0]⟩ 64) → 
  ∃ w3, (Instr.storeAt 64 (.pointer (some ⟨w1.heap.size, 0, none⟩)) (.agg ⟨x10⟩)).run prog w2 = .ok () w3 ∧ 
  ∀ Kx : World → Prop, (∀ w4,
  (∃ x26 : Int, ∃ x26_1 : Bool, ∃ x26_2 : List UInt8, ∃ x26_3 : Int, LoadsRow prog 64 w4 ⟨w1.heap.size, 0, none⟩ [.int .i64 x26, .bool x26_1, .string (mkS x26_2), .int .i64 x26_3] ∧ 
    Calls prog 112 ⟨[.agg ⟨[.int .i64 x26, .bool x26_1, .string (mkS x26_2), .int .i64 x26_3]⟩]⟩ w4 fun e w5 => ∃ x27 : Int, ∃ x27_1 : Int, e = .returned (.tuple ⟨[.int .u64 x27, .int .u64 x27_1]⟩) ∧ 
    (decide (x27 = hi) = true →
    R (.bool (decide (x27_1 = lo))) w5) ∧ (decide (x27 = hi) = false →
    R (.bool false) w5)) → Kx w4) →
  ∃ x11 : Int, ∃ x11_1 : Bool, ∃ x11_2 : List UInt8, ∃ x11_3 : Int, LoadsRow prog 64 w3 ⟨w1.heap.size, 0, none⟩ [.int .i64 x11, .bool x11_1, .string (mkS x11_2), .int .i64 x11_3] ∧ 
  Calls prog 111 ⟨[.agg ⟨[.int .i64 x11, .bool x11_1, .string (mkS x11_2), .int .i64 x11_3]⟩]⟩ w3 fun e w6 => ∃ x12 : Bool, e = .returned (.bool x12) ∧ 
  ((!x12) = true →
  R (.bool false) w6) ∧ ((!x12) = false →
  (0 : Int) ≤ 61 ∧ ∃ x16 : Int, Int.fdiv hi (2 ^ 61) = x16 ∧ 
    ∃ x17 : Int, bits .and .u64 x16 3 = x17 ∧ 
    (decide (x17 = 3) = true →
    ∃ x21 : Int, w6.cell? ⟨w1.heap.size, 0, none⟩ = some (.int .i64 x21) ∧ 
      (decide (x21 = 0) = true →
      R (.bool false) w6) ∧ (decide (x21 = 0) = false →
      Kx w6)) ∧ (decide (x17 = 3) = false →
    Kx w6))
def an59 : Ann :=
  .seq (.reg (.text []))
  (.seq (.reg (.text [.p .n, .p .n, .p (.sh [.agg])]))
  (.cut [] [0, 1, 5] (.seq (.reg (.text [.p (.sh [.int .i64, .bool, .str, .int .i64]), .p (.sh [.bool]), .p .n, .p .n, .gs .n 3 4, .p .n, .p .n, .p .n, .p .n, .on 4 (.gs .n 5 6) (.p .n), .on 5 (.p (.sh [.int .i64])) (.p .n)]))
  (.on 6 (.no .leaf) (.on 5 (.cond 7 8 (.seq (.reg (.text []))
  .leaf) .leaf) (.yes (.seq (.reg (.text []))
  .leaf)))))
  (.seq (.reg (.text [.p (.sh [.int .i64, .bool, .str, .int .i64]), .p (.sh [.int .u64, .int .u64])]))
  (.seq (.reg (.text [.p .n, .p .n, .p .n, .p .n, .gs .n 1 2]))
  .leaf))))
theorem vcE59 (hi : Int) (lo : Int) (w : World) (R : Value → World → Prop) : vcFn prog f59 an59 [.int .u64 hi, .int .u64 lo] w R = VC59 hi lo w R := by kernel_rfl
theorem c59 (hi : Int) (lo : Int) (w : World) (R : Value → World → Prop) (hvc : VC59 hi lo w R) : Calls prog 59 ⟨[.int .u64 hi, .int .u64 lo]⟩ w fun e w' => ∃ v, e = .returned v ∧ R v w' :=
  vc_calls mixed (fn := f59) (ann := an59) (by kernel_rfl) ((vcE59 hi lo w R).symm ▸ hvc)

/- F58: math.NaN -/
def VC58  (w : World) (R : Value → World → Prop) : Prop :=
  ∃ x1 : Nat, ∃ w1, (callFunc 26 ⟨[.int .u64 9221120237041090561]⟩).run prog w = .ok (.value (.float .f64 x1)) w1 ∧ 
  R (.float .f64 x1) w1
def an58 : Ann :=
  .seq (.reg (.text []))
  (.seq (.reg (.text [.p (.sh [.float])]))
  .leaf)
theorem vcE58  (w : World) (R : Value → World → Prop) : vcFn prog f58 an58 [] w R = VC58  w R := by kernel_rfl
theorem c58  (w : World) (R : Value → World → Prop) (hvc : VC58  w R) : Calls prog 58 ⟨[]⟩ w fun e w' => ∃ v, e = .returned v ∧ R v w' :=
  vc_calls mixed (fn := f58) (ann := an58) (by kernel_rfl) ((vcE58  w R).symm ▸ hvc)

end Go.Proofs.Tryz
