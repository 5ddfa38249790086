/- Parts of a proof, joined: VF, A15. -/
import Derived.Test.YtfofafjemgfobaaGreatDoorZ4
import Derived.Test.YtfofafjemgfobaaGreatDoorZ14
import GoSem.PinnedTables
set_option linter.unusedVariables false
set_option maxRecDepth 100000
namespace Go.Proofs.Tryz
open Go.Vc

/- F27: spec.ExtDouble -/
def VC27 (f : Nat) (w : World) (R : Value → World → Prop) : Prop :=
  Calls prog 28 ⟨[.float .f64 f]⟩ w fun e w1 => ∃ x7 : Bool, e = .returned (.bool x7) ∧ 
  (x7 = true →
  R (.string (mkS [78, 97, 78])) w1) ∧ (x7 = false →
  Calls prog 29 ⟨[.float .f64 f, .int .i64 1]⟩ w1 fun e w2 => ∃ x10 : Bool, e = .returned (.bool x10) ∧ 
    (x10 = true →
    R (.string (mkS [73, 110, 102, 105, 110, 105, 116, 121])) w2) ∧ (x10 = false →
    Calls prog 29 ⟨[.float .f64 f, .int .i64 (-1)]⟩ w2 fun e w3 => ∃ x13 : Bool, e = .returned (.bool x13) ∧ 
      (x13 = true →
      R (.string (mkS [45, 73, 110, 102, 105, 110, 105, 116, 121])) w3) ∧ (x13 = false →
      Calls prog 61 ⟨[.float .f64 f, .int .u8 71, .int .i64 (-1), .int .i64 64]⟩ w3 fun e w4 => ∃ x15 : List UInt8, e = .returned (.string (mkS x15)) ∧ 
        ∃ Ix : Nat → Int → World → Prop, (∃ m_2, Ix m_2 0 w4) ∧
        ∀ m, ∀ i : Int, ∀ w5, Ix m i w5 →
        (decide (i < (x15.length : Int)) = true →
          ∃ x24 : UInt8, ((0 : Int) ≤ i ∧ x15[i.toNat]? = some x24) ∧ 
            (decide ((x24.toNat : Int) = 46) = true →
            R (.string (mkS x15)) w5) ∧ (decide ((x24.toNat : Int) = 46) = false →
            ∃ x29 : UInt8, ((0 : Int) ≤ i ∧ x15[i.toNat]? = some x29) ∧ 
              (decide ((x29.toNat : Int) = 69) = true →
              R (.string (mkS x15)) w5) ∧ (decide ((x29.toNat : Int) = 69) = false →
              ∃ x21 : Int, IntKind.i64.wrap (i + 1) = x21 ∧ 
                ∃ m_1, m_1 < m ∧ Ix m_1 x21 w5))) ∧ (decide (i < (x15.length : Int)) = false →
          x15.length + [46, 48].length ≤ 9223372036854775807 ∧ 
            R (.string (mkS (x15 ++ [46, 48]))) w5))))
def an27 : Ann :=
  .seq (.reg (.text []))
  (.seq (.block (.seq (.reg (.text [.p .n, .p (.sh [.bool])]))
  (.cond 1 2 (.seq (.reg (.text []))
  .leaf) (.seq (.reg (.text [.p .n, .p (.sh [.bool])]))
  (.cond 3 4 (.seq (.reg (.text []))
  .leaf) (.seq (.reg (.text [.p .n, .p (.sh [.bool])]))
  (.cond 5 6 (.seq (.reg (.text []))
  .leaf) .leaf)))))))
  (.seq (.reg (.text [.p .n, .p (.sh [.str])]))
  (.seq (.seq (.reg (.text []))
  (.block (.loop [(4, .int .i64)] [3] (.seq (.seq (.reg (.text []))
  (.cond 7 8 .leaf .leaf))
  (.seq (.block (.seq (.reg (.text [.p .n, .p .n, .p .n, .p .n, .p .n, .gs .n 9 10]))
  (.on 10 (.cond 11 12 (.seq (.reg (.text []))
  .leaf) .leaf) (.yes (.seq (.reg (.text []))
  .leaf)))))
  (.reg (.text [])))))))
  (.seq (.reg (.text []))
  .leaf))))
theorem vcE27 (f : Nat) (w : World) (R : Value → World → Prop) : vcFn prog f27 an27 [.float .f64 f] w R = VC27 f w R := by kernel_rfl
theorem c27 (f : Nat) (w : World) (R : Value → World → Prop) (hvc : VC27 f w R) : Calls prog 27 ⟨[.float .f64 f]⟩ w fun e w' => ∃ v, e = .returned v ∧ R v w' :=
  vc_calls mixed (fn := f27) (ann := an27) (by kernel_rfl) ((vcE27 f w R).symm ▸ hvc)

/- F28: math.IsNaN -/
def VC28 (f : Nat) (w : World) (R : Value → World → Prop) : Prop :=
  R (.bool (FloatKind.f64.format.order f f != some .eq)) w
def an28 : Ann :=
  .seq (.reg (.text []))
  (.seq (.reg (.text []))
  .leaf)
theorem vcE28 (f : Nat) (w : World) (R : Value → World → Prop) : vcFn prog f28 an28 [.float .f64 f] w R = VC28 f w R := by kernel_rfl
theorem c28 (f : Nat) (w : World) (R : Value → World → Prop) (hvc : VC28 f w R) : Calls prog 28 ⟨[.float .f64 f]⟩ w fun e w' => ∃ v, e = .returned v ∧ R v w' :=
  vc_calls mixed (fn := f28) (ann := an28) (by kernel_rfl) ((vcE28 f w R).symm ▸ hvc)

/- F29: math.IsInf -/
def VC29 (f : Nat) (sign : Int) (w : World) (R : Value → World → Prop) : Prop :=
  (decide (sign = 0) = true →
  Calls prog 62 ⟨[.float .f64 f]⟩ w fun e w1 => ∃ x8 : Nat, e = .returned (.float .f64 x8) ∧ 
    R (.bool (FloatKind.f64.format.order x8 9218868437227405311 == some .gt)) w1) ∧ (decide (sign = 0) = false →
  (decide (sign < 0) = true →
    ∃ x12 : Nat, ∃ w2, (Op.unary .neg (.float .f64 f)).run prog w = .ok (.float .f64 x12) w2 ∧ 
      R (.bool (FloatKind.f64.format.order x12 9218868437227405311 == some .gt)) w2) ∧ (decide (sign < 0) = false →
    R (.bool (FloatKind.f64.format.order f 9218868437227405311 == some .gt)) w))
def an29 : Ann :=
  .seq (.reg (.text []))
  (.seq (.seq (.reg (.text []))
  (.cond 1 2 (.reg (.text [.p .n, .p (.sh [.float])])) (.seq (.reg (.text []))
  (.cond 3 4 (.reg (.text [.p .n, .p (.sh [.float])])) .leaf))))
  (.seq (.reg (.text []))
  .leaf))
theorem vcE29 (f : Nat) (sign : Int) (w : World) (R : Value → World → Prop) : vcFn prog f29 an29 [.float .f64 f, .int .i64 sign] w R = VC29 f sign w R := by kernel_rfl
theorem c29 (f : Nat) (sign : Int) (w : World) (R : Value → World → Prop) (hvc : VC29 f sign w R) : Calls prog 29 ⟨[.float .f64 f, .int .i64 sign]⟩ w fun e w' => ∃ v, e = .returned v ∧ R v w' :=
  vc_calls mixed (fn := f29) (ann := an29) (by kernel_rfl) ((vcE29 f sign w R).symm ▸ hvc)

/- F62: math.Abs -/
def VC62 (x : Nat) (w : World) (R : Value → World → Prop) : Prop :=
  ∃ x4 : Int, ∃ w1, (callFunc 57 ⟨[.float .f64 x]⟩).run prog w = .ok (.value (.int .u64 x4)) w1 ∧ 
  ∃ x5 : Int, bits .andNot .u64 x4 9223372036854775808 = x5 ∧ 
  ∃ x6 : Nat, ∃ w2, (callFunc 26 ⟨[.int .u64 x5]⟩).run prog w1 = .ok (.value (.float .f64 x6)) w2 ∧ 
  R (.float .f64 x6) w2
def an62 : Ann :=
  .seq (.reg (.text []))
  (.seq (.reg (.text [.p .n, .p (.sh [.int .u64]), .p .n, .p (.sh [.float])]))
  .leaf)
theorem vcE62 (x : Nat) (w : World) (R : Value → World → Prop) : vcFn prog f62 an62 [.float .f64 x] w R = VC62 x w R := by kernel_rfl
theorem c62 (x : Nat) (w : World) (R : Value → World → Prop) (hvc : VC62 x w R) : Calls prog 62 ⟨[.float .f64 x]⟩ w fun e w' => ∃ v, e = .returned v ∧ R v w' :=
  vc_calls mixed (fn := f62) (ann := an62) (by kernel_rfl) ((vcE62 x w R).symm ▸ hvc)

/- F9: spec.ExtText -/
def VC9 (xKind : Int) (xText : List UInt8) (xMore : List UInt8) (xN : Int) (xBits : Int) (xHigh : Int) (xB : Option Addr) (xB_n xB_c : Nat) (xKids : Option Addr) (xKids_n xKids_c : Nat) (canonical : Bool) (escape : Bool) (w : World) (R : Value → World → Prop) : Prop :=
  ∀ w1, w1 = w.alloc (.cells ⟨[.int .i64 xKind, .string (mkS xText), .string (mkS xMore), .int .i64 xN, .int .u64 xBits, .int .u64 xHigh, .slice xB xB_n xB_c, .slice xKids xKids_n xKids_c]⟩ 26) → 
  ∀ w2, w2 = w1.alloc (.cells ⟨[.bool escape]⟩ 4) → 
  ∃ x16 : Int, w2.cell? ⟨w.heap.size, 0, none⟩ = some (.int .i64 x16) ∧ 
  (decide (x16 = 1) = true →
  ∃ x20 : Int, w2.cell? ⟨w.heap.size, 4, none⟩ = some (.int .u64 x20) ∧ 
    ∃ x21 : Nat, ∃ w3, (callFunc 26 ⟨[.int .u64 x20]⟩).run prog w2 = .ok (.value (.float .f64 x21)) w3 ∧ 
    Calls prog 27 ⟨[.float .f64 x21]⟩ w3 fun e w4 => ∃ x23 : List UInt8, e = .returned (.string (mkS x23)) ∧ 
    ∀ Kx : Bool → World → Prop, (∀ x32 : Bool, ∀ w5,
    ((x32 = true →
      [34].length + x23.length ≤ 9223372036854775807 ∧ 
        ([34] ++ x23).length + [34].length ≤ 9223372036854775807 ∧ 
        Calls prog 25 ⟨[.string (mkS [36, 110, 117, 109, 98, 101, 114, 68, 111, 117, 98, 108, 101]), .string (mkS (([34] ++ x23) ++ [34]))]⟩ w5 fun e w6 => ∃ x37 : List UInt8, ∃ x37_1 : Bool, e = .returned (.tuple ⟨[.string (mkS x37), .bool x37_1]⟩) ∧ 
        R (.tuple ⟨[.string (mkS x37), .bool x37_1]⟩) w6) ∧ (x32 = false →
      R (.tuple ⟨[.string (mkS x23), .bool true]⟩) w5)) → Kx x32 w5) →
    (canonical = true →
    Kx true w4) ∧ (canonical = false →
    Calls prog 28 ⟨[.float .f64 x21]⟩ w4 fun e w7 => ∃ x27 : Bool, e = .returned (.bool x27) ∧ 
      (x27 = true →
      Kx true w7) ∧ (x27 = false →
      Calls prog 29 ⟨[.float .f64 x21, .int .i64 0]⟩ w7 fun e w8 => ∃ x31 : Bool, e = .returned (.bool x31) ∧ 
        Kx x31 w8))) ∧ (decide (x16 = 1) = false →
  (decide (x16 = 2) = true →
    ∃ x45 : List UInt8, w2.cell? ⟨w.heap.size, 1, none⟩ = some (.string (mkS x45)) ∧ 
      Calls prog 23 ⟨[.string (mkS x45), .pointer (some (⟨w1.heap.size, 0, none⟩))]⟩ w2 fun e w9 => ∃ x46 : List UInt8, e = .returned (.string (mkS x46)) ∧ 
      R (.tuple ⟨[.string (mkS x46), .bool true]⟩) w9) ∧ (decide (x16 = 2) = false →
    ∀ Kx_1 : Bool → World → Prop, (∀ x47 : Bool, ∀ w10,
      ((x47 = true →
        ∃ x50 : Int, ∃ x50_1 : List UInt8, ∃ x50_2 : List UInt8, ∃ x50_3 : Int, ∃ x50_4 : Int, ∃ x50_5 : Int, ∃ (x50_6 : Option Addr) (x50_6_n x50_6_c : Nat), ∃ (x50_7 : Option Addr) (x50_7_n x50_7_c : Nat), LoadsRow prog 26 w10 ⟨w.heap.size, 0, none⟩ [.int .i64 x50, .string (mkS x50_1), .string (mkS x50_2), .int .i64 x50_3, .int .u64 x50_4, .int .u64 x50_5, .slice x50_6 x50_6_n x50_6_c, .slice x50_7 x50_7_n x50_7_c] ∧ 
          ∃ x52 : Bool, w10.cell? ⟨w1.heap.size, 0, none⟩ = some (.bool x52) ∧ 
          Calls prog 30 ⟨[.agg ⟨[.int .i64 x50, .string (mkS x50_1), .string (mkS x50_2), .int .i64 x50_3, .int .u64 x50_4, .int .u64 x50_5, .slice x50_6 x50_6_n x50_6_c, .slice x50_7 x50_7_n x50_7_c]⟩, .bool canonical, .bool x52]⟩ w10 fun e w11 => ∃ x53 : List UInt8, ∃ x53_1 : Bool, e = .returned (.tuple ⟨[.string (mkS x53), .bool x53_1]⟩) ∧ 
          R (.tuple ⟨[.string (mkS x53), .bool x53_1]⟩) w11) ∧ (x47 = false →
        (decide (x16 = 5) = true →
          ∃ f : List (Addr × Value), Kept w10 f ∧
            ∃ (x60 : Option Addr) (x60_n x60_c : Nat), (⟨w.heap.size, 6, none⟩, .slice x60 x60_n x60_c) ∈ f ∧ 
            ∃ x65 : Int, (⟨w.heap.size, 3, none⟩, .int .i64 x65) ∈ f ∧ 
            ∃ x66 : Int, IntKind.u8.wrap x65 = x66 ∧ 
            Calls prog 31 ⟨[.slice x60 x60_n x60_c]⟩ w10.drew fun e w12 => ∃ x61 : List UInt8, e = .returned (.string (mkS x61)) ∧ 
            Kept w12 f ∧ [123, 34, 98, 97, 115, 101, 54, 52, 34, 58, 34].length + x61.length ≤ 9223372036854775807 ∧ 
            ([123, 34, 98, 97, 115, 101, 54, 52, 34, 58, 34] ++ x61).length + [34, 44, 34, 115, 117, 98, 84, 121, 112, 101, 34, 58, 34].length ≤ 9223372036854775807 ∧ 
            Calls prog 32 ⟨[.int .u8 x66]⟩ w12 fun e w13 => ∃ x67 : List UInt8, e = .returned (.string (mkS x67)) ∧ 
            (([123, 34, 98, 97, 115, 101, 54, 52, 34, 58, 34] ++ x61) ++ [34, 44, 34, 115, 117, 98, 84, 121, 112, 101, 34, 58, 34]).length + x67.length ≤ 9223372036854775807 ∧ 
            ((([123, 34, 98, 97, 115, 101, 54, 52, 34, 58, 34] ++ x61) ++ [34, 44, 34, 115, 117, 98, 84, 121, 112, 101, 34, 58, 34]) ++ x67).length + [34, 125].length ≤ 9223372036854775807 ∧ 
            Calls prog 25 ⟨[.string (mkS [36, 98, 105, 110, 97, 114, 121]), .string (mkS (((([123, 34, 98, 97, 115, 101, 54, 52, 34, 58, 34] ++ x61) ++ [34, 44, 34, 115, 117, 98, 84, 121, 112, 101, 34, 58, 34]) ++ x67) ++ [34, 125]))]⟩ w13 fun e w14 => ∃ x70 : List UInt8, ∃ x70_1 : Bool, e = .returned (.tuple ⟨[.string (mkS x70), .bool x70_1]⟩) ∧ 
            R (.tuple ⟨[.string (mkS x70), .bool x70_1]⟩) w14) ∧ (decide (x16 = 5) = false →
          (decide (x16 = 6) = true →
            Calls prog 25 ⟨[.string (mkS [36, 117, 110, 100, 101, 102, 105, 110, 101, 100]), .string (mkS [116, 114, 117, 101])]⟩ w10 fun e w15 => ∃ x76 : List UInt8, ∃ x76_1 : Bool, e = .returned (.tuple ⟨[.string (mkS x76), .bool x76_1]⟩) ∧ 
              R (.tuple ⟨[.string (mkS x76), .bool x76_1]⟩) w15) ∧ (decide (x16 = 6) = false →
            (decide (x16 = 7) = true →
              ∃ (x83 : Option Addr) (x83_n x83_c : Nat), w10.cell? ⟨w.heap.size, 6, none⟩ = some (.slice x83 x83_n x83_c) ∧ 
                Calls prog 33 ⟨[.slice x83 x83_n x83_c]⟩ w10 fun e w16 => ∃ x84 : List UInt8, e = .returned (.string (mkS x84)) ∧ 
                Calls prog 25 ⟨[.string (mkS [36, 111, 105, 100]), .string (mkS x84)]⟩ w16 fun e w17 => ∃ x85 : List UInt8, ∃ x85_1 : Bool, e = .returned (.tuple ⟨[.string (mkS x85), .bool x85_1]⟩) ∧ 
                R (.tuple ⟨[.string (mkS x85), .bool x85_1]⟩) w17) ∧ (decide (x16 = 7) = false →
              (decide (x16 = 8) = true →
                ∃ x91 : Int, w10.cell? ⟨w.heap.size, 3, none⟩ = some (.int .i64 x91) ∧ 
                  (decide (x91 = 1) = true →
                  R (.tuple ⟨[.string (mkS [116, 114, 117, 101]), .bool true]⟩) w10) ∧ (decide (x91 = 1) = false →
                  R (.tuple ⟨[.string (mkS [102, 97, 108, 115, 101]), .bool true]⟩) w10)) ∧ (decide (x16 = 8) = false →
                (decide (x16 = 9) = true →
                  ∃ x97 : Int, w10.cell? ⟨w.heap.size, 3, none⟩ = some (.int .i64 x97) ∧ 
                    Calls prog 34 ⟨[.int .i64 x97, .int .i64 10]⟩ w10 fun e w18 => ∃ x98 : List UInt8, e = .returned (.string (mkS x98)) ∧ 
                    [123, 34, 36, 110, 117, 109, 98, 101, 114, 76, 111, 110, 103, 34, 58, 34].length + x98.length ≤ 9223372036854775807 ∧ 
                    ([123, 34, 36, 110, 117, 109, 98, 101, 114, 76, 111, 110, 103, 34, 58, 34] ++ x98).length + [34, 125].length ≤ 9223372036854775807 ∧ 
                    Calls prog 25 ⟨[.string (mkS [36, 100, 97, 116, 101]), .string (mkS (([123, 34, 36, 110, 117, 109, 98, 101, 114, 76, 111, 110, 103, 34, 58, 34] ++ x98) ++ [34, 125]))]⟩ w18 fun e w19 => ∃ x101 : List UInt8, ∃ x101_1 : Bool, e = .returned (.tuple ⟨[.string (mkS x101), .bool x101_1]⟩) ∧ 
                    R (.tuple ⟨[.string (mkS x101), .bool x101_1]⟩) w19) ∧ (decide (x16 = 9) = false →
                  (decide (x16 = 10) = true →
                    R (.tuple ⟨[.string (mkS [110, 117, 108, 108]), .bool true]⟩) w10) ∧ (decide (x16 = 10) = false →
                    (decide (x16 = 11) = true →
                      ∃ f_1 : List (Addr × Value), Kept w10 f_1 ∧
                        ∃ x111 : List UInt8, (⟨w.heap.size, 1, none⟩, .string (mkS x111)) ∈ f_1 ∧ 
                        ∃ x117 : List UInt8, (⟨w.heap.size, 2, none⟩, .string (mkS x117)) ∈ f_1 ∧ 
                        Calls prog 23 ⟨[.string (mkS x111), .pointer (some (⟨w1.heap.size, 0, none⟩))]⟩ w10.drew fun e w20 => ∃ x112 : List UInt8, e = .returned (.string (mkS x112)) ∧ 
                        Kept w20 f_1 ∧ [123, 34, 112, 97, 116, 116, 101, 114, 110, 34, 58].length + x112.length ≤ 9223372036854775807 ∧ 
                        ([123, 34, 112, 97, 116, 116, 101, 114, 110, 34, 58] ++ x112).length + [44, 34, 111, 112, 116, 105, 111, 110, 115, 34, 58].length ≤ 9223372036854775807 ∧ 
                        Calls prog 35 ⟨[.string (mkS x117)]⟩ w20 fun e w21 => ∃ x118 : List UInt8, e = .returned (.string (mkS x118)) ∧ 
                        Calls prog 23 ⟨[.string (mkS x118), .pointer (some (⟨w1.heap.size, 0, none⟩))]⟩ w21 fun e w22 => ∃ x119 : List UInt8, e = .returned (.string (mkS x119)) ∧ 
                        (([123, 34, 112, 97, 116, 116, 101, 114, 110, 34, 58] ++ x112) ++ [44, 34, 111, 112, 116, 105, 111, 110, 115, 34, 58]).length + x119.length ≤ 9223372036854775807 ∧ 
                        ((([123, 34, 112, 97, 116, 116, 101, 114, 110, 34, 58] ++ x112) ++ [44, 34, 111, 112, 116, 105, 111, 110, 115, 34, 58]) ++ x119).length + [125].length ≤ 9223372036854775807 ∧ 
                        Calls prog 25 ⟨[.string (mkS [36, 114, 101, 103, 117, 108, 97, 114, 69, 120, 112, 114, 101, 115, 115, 105, 111, 110]), .string (mkS (((([123, 34, 112, 97, 116, 116, 101, 114, 110, 34, 58] ++ x112) ++ [44, 34, 111, 112, 116, 105, 111, 110, 115, 34, 58]) ++ x119) ++ [125]))]⟩ w22 fun e w23 => ∃ x122 : List UInt8, ∃ x122_1 : Bool, e = .returned (.tuple ⟨[.string (mkS x122), .bool x122_1]⟩) ∧ 
                        R (.tuple ⟨[.string (mkS x122), .bool x122_1]⟩) w23) ∧ (decide (x16 = 11) = false →
                      (decide (x16 = 12) = true →
                        ∃ f_2 : List (Addr × Value), Kept w10 f_2 ∧
                          ∃ x130 : List UInt8, (⟨w.heap.size, 1, none⟩, .string (mkS x130)) ∈ f_2 ∧ 
                          ∃ (x135 : Option Addr) (x135_n x135_c : Nat), (⟨w.heap.size, 6, none⟩, .slice x135 x135_n x135_c) ∈ f_2 ∧ 
                          Calls prog 23 ⟨[.string (mkS x130), .pointer (some (⟨w1.heap.size, 0, none⟩))]⟩ w10.drew fun e w24 => ∃ x131 : List UInt8, e = .returned (.string (mkS x131)) ∧ 
                          Kept w24 f_2 ∧ [123, 34, 36, 114, 101, 102, 34, 58].length + x131.length ≤ 9223372036854775807 ∧ 
                          ([123, 34, 36, 114, 101, 102, 34, 58] ++ x131).length + [44, 34, 36, 105, 100, 34, 58, 123, 34, 36, 111, 105, 100, 34, 58].length ≤ 9223372036854775807 ∧ 
                          Calls prog 33 ⟨[.slice x135 x135_n x135_c]⟩ w24 fun e w25 => ∃ x136 : List UInt8, e = .returned (.string (mkS x136)) ∧ 
                          (([123, 34, 36, 114, 101, 102, 34, 58] ++ x131) ++ [44, 34, 36, 105, 100, 34, 58, 123, 34, 36, 111, 105, 100, 34, 58]).length + x136.length ≤ 9223372036854775807 ∧ 
                          ((([123, 34, 36, 114, 101, 102, 34, 58] ++ x131) ++ [44, 34, 36, 105, 100, 34, 58, 123, 34, 36, 111, 105, 100, 34, 58]) ++ x136).length + [125, 125].length ≤ 9223372036854775807 ∧ 
                          Calls prog 25 ⟨[.string (mkS [36, 100, 98, 80, 111, 105, 110, 116, 101, 114]), .string (mkS (((([123, 34, 36, 114, 101, 102, 34, 58] ++ x131) ++ [44, 34, 36, 105, 100, 34, 58, 123, 34, 36, 111, 105, 100, 34, 58]) ++ x136) ++ [125, 125]))]⟩ w25 fun e w26 => ∃ x139 : List UInt8, ∃ x139_1 : Bool, e = .returned (.tuple ⟨[.string (mkS x139), .bool x139_1]⟩) ∧ 
                          R (.tuple ⟨[.string (mkS x139), .bool x139_1]⟩) w26) ∧ (decide (x16 = 12) = false →
                        (decide (x16 = 13) = true →
                          ∃ x147 : List UInt8, w10.cell? ⟨w.heap.size, 1, none⟩ = some (.string (mkS x147)) ∧ 
                            Calls prog 23 ⟨[.string (mkS x147), .pointer (some (⟨w1.heap.size, 0, none⟩))]⟩ w10 fun e w27 => ∃ x148 : List UInt8, e = .returned (.string (mkS x148)) ∧ 
                            Calls prog 25 ⟨[.string (mkS [36, 99, 111, 100, 101]), .string (mkS x148)]⟩ w27 fun e w28 => ∃ x149 : List UInt8, ∃ x149_1 : Bool, e = .returned (.tuple ⟨[.string (mkS x149), .bool x149_1]⟩) ∧ 
                            R (.tuple ⟨[.string (mkS x149), .bool x149_1]⟩) w28) ∧ (decide (x16 = 13) = false →
                          (decide (x16 = 14) = true →
                            ∃ x157 : List UInt8, w10.cell? ⟨w.heap.size, 1, none⟩ = some (.string (mkS x157)) ∧ 
                              Calls prog 23 ⟨[.string (mkS x157), .pointer (some (⟨w1.heap.size, 0, none⟩))]⟩ w10 fun e w29 => ∃ x158 : List UInt8, e = .returned (.string (mkS x158)) ∧ 
                              Calls prog 25 ⟨[.string (mkS [36, 115, 121, 109, 98, 111, 108]), .string (mkS x158)]⟩ w29 fun e w30 => ∃ x159 : List UInt8, ∃ x159_1 : Bool, e = .returned (.tuple ⟨[.string (mkS x159), .bool x159_1]⟩) ∧ 
                              R (.tuple ⟨[.string (mkS x159), .bool x159_1]⟩) w30) ∧ (decide (x16 = 14) = false →
                            (decide (x16 = 15) = true →
                              ∃ (x166 : Option Addr) (x166_n x166_c : Nat), w10.cell? ⟨w.heap.size, 7, none⟩ = some (.slice x166 x166_n x166_c) ∧ 
                                ∃ x169 : Bool, w10.cell? ⟨w1.heap.size, 0, none⟩ = some (.bool x169) ∧ 
                                Calls prog 30 ⟨[.agg ⟨[.int .i64 3, .string (mkS []), .string (mkS []), .int .i64 0, .int .u64 0, .int .u64 0, .slice none 0 0, .slice x166 x166_n x166_c]⟩, .bool canonical, .bool x169]⟩ w10 fun e w31 => ∃ x170 : List UInt8, ∃ x170_1 : Bool, e = .returned (.tuple ⟨[.string (mkS x170), .bool x170_1]⟩) ∧ 
                                ∃ x175 : List UInt8, w31.cell? ⟨w.heap.size, 1, none⟩ = some (.string (mkS x175)) ∧ 
                                Calls prog 23 ⟨[.string (mkS x175), .pointer (some (⟨w1.heap.size, 0, none⟩))]⟩ w31 fun e w32 => ∃ x176 : List UInt8, e = .returned (.string (mkS x176)) ∧ 
                                [123, 34, 36, 99, 111, 100, 101, 34, 58].length + x176.length ≤ 9223372036854775807 ∧ 
                                ([123, 34, 36, 99, 111, 100, 101, 34, 58] ++ x176).length + [44, 34, 36, 115, 99, 111, 112, 101, 34, 58].length ≤ 9223372036854775807 ∧ 
                                (([123, 34, 36, 99, 111, 100, 101, 34, 58] ++ x176) ++ [44, 34, 36, 115, 99, 111, 112, 101, 34, 58]).length + x170.length ≤ 9223372036854775807 ∧ 
                                ((([123, 34, 36, 99, 111, 100, 101, 34, 58] ++ x176) ++ [44, 34, 36, 115, 99, 111, 112, 101, 34, 58]) ++ x170).length + [125].length ≤ 9223372036854775807 ∧ 
                                R (.tuple ⟨[.string (mkS (((([123, 34, 36, 99, 111, 100, 101, 34, 58] ++ x176) ++ [44, 34, 36, 115, 99, 111, 112, 101, 34, 58]) ++ x170) ++ [125])), .bool x170_1]⟩) w32) ∧ (decide (x16 = 15) = false →
                              (decide (x16 = 16) = true →
                                (canonical = true →
                                  ∃ x188 : Int, w10.cell? ⟨w.heap.size, 3, none⟩ = some (.int .i64 x188) ∧ 
                                    Calls prog 34 ⟨[.int .i64 x188, .int .i64 10]⟩ w10 fun e w33 => ∃ x189 : List UInt8, e = .returned (.string (mkS x189)) ∧ 
                                    [34].length + x189.length ≤ 9223372036854775807 ∧ 
                                    ([34] ++ x189).length + [34].length ≤ 9223372036854775807 ∧ 
                                    Calls prog 25 ⟨[.string (mkS [36, 110, 117, 109, 98, 101, 114, 73, 110, 116]), .string (mkS (([34] ++ x189) ++ [34]))]⟩ w33 fun e w34 => ∃ x192 : List UInt8, ∃ x192_1 : Bool, e = .returned (.tuple ⟨[.string (mkS x192), .bool x192_1]⟩) ∧ 
                                    R (.tuple ⟨[.string (mkS x192), .bool x192_1]⟩) w34) ∧ (canonical = false →
                                  ∃ x196 : Int, w10.cell? ⟨w.heap.size, 3, none⟩ = some (.int .i64 x196) ∧ 
                                    Calls prog 34 ⟨[.int .i64 x196, .int .i64 10]⟩ w10 fun e w35 => ∃ x197 : List UInt8, e = .returned (.string (mkS x197)) ∧ 
                                    R (.tuple ⟨[.string (mkS x197), .bool true]⟩) w35)) ∧ (decide (x16 = 16) = false →
                                (decide (x16 = 17) = true →
                                  ∃ f_3 : List (Addr × Value), Kept w10 f_3 ∧
                                    ∃ x202 : Int, (⟨w.heap.size, 4, none⟩, .int .u64 x202) ∈ f_3 ∧ 
                                    (0 : Int) ≤ 32 ∧ ∃ x203 : Int, Int.fdiv x202 (2 ^ 32) = x203 ∧ 
                                    ∃ x208 : Int, (⟨w.heap.size, 4, none⟩, .int .u64 x208) ∈ f_3 ∧ 
                                    ∃ x209 : Int, bits .and .u64 x208 4294967295 = x209 ∧ 
                                    Calls prog 36 ⟨[.int .u64 x203, .int .i64 10]⟩ w10.drew fun e w36 => ∃ x204 : List UInt8, e = .returned (.string (mkS x204)) ∧ 
                                    Kept w36 f_3 ∧ [123, 34, 116, 34, 58].length + x204.length ≤ 9223372036854775807 ∧ 
                                    ([123, 34, 116, 34, 58] ++ x204).length + [44, 34, 105, 34, 58].length ≤ 9223372036854775807 ∧ 
                                    Calls prog 36 ⟨[.int .u64 x209, .int .i64 10]⟩ w36 fun e w37 => ∃ x210 : List UInt8, e = .returned (.string (mkS x210)) ∧ 
                                    (([123, 34, 116, 34, 58] ++ x204) ++ [44, 34, 105, 34, 58]).length + x210.length ≤ 9223372036854775807 ∧ 
                                    ((([123, 34, 116, 34, 58] ++ x204) ++ [44, 34, 105, 34, 58]) ++ x210).length + [125].length ≤ 9223372036854775807 ∧ 
                                    Calls prog 25 ⟨[.string (mkS [36, 116, 105, 109, 101, 115, 116, 97, 109, 112]), .string (mkS (((([123, 34, 116, 34, 58] ++ x204) ++ [44, 34, 105, 34, 58]) ++ x210) ++ [125]))]⟩ w37 fun e w38 => ∃ x213 : List UInt8, ∃ x213_1 : Bool, e = .returned (.tuple ⟨[.string (mkS x213), .bool x213_1]⟩) ∧ 
                                    R (.tuple ⟨[.string (mkS x213), .bool x213_1]⟩) w38) ∧ (decide (x16 = 17) = false →
                                  (decide (x16 = 18) = true →
                                    (canonical = true →
                                      ∃ x221 : Int, w10.cell? ⟨w.heap.size, 3, none⟩ = some (.int .i64 x221) ∧ 
                                        Calls prog 34 ⟨[.int .i64 x221, .int .i64 10]⟩ w10 fun e w39 => ∃ x222 : List UInt8, e = .returned (.string (mkS x222)) ∧ 
                                        [34].length + x222.length ≤ 9223372036854775807 ∧ 
                                        ([34] ++ x222).length + [34].length ≤ 9223372036854775807 ∧ 
                                        Calls prog 25 ⟨[.string (mkS [36, 110, 117, 109, 98, 101, 114, 76, 111, 110, 103]), .string (mkS (([34] ++ x222) ++ [34]))]⟩ w39 fun e w40 => ∃ x225 : List UInt8, ∃ x225_1 : Bool, e = .returned (.tuple ⟨[.string (mkS x225), .bool x225_1]⟩) ∧ 
                                        R (.tuple ⟨[.string (mkS x225), .bool x225_1]⟩) w40) ∧ (canonical = false →
                                      ∃ x229 : Int, w10.cell? ⟨w.heap.size, 3, none⟩ = some (.int .i64 x229) ∧ 
                                        Calls prog 34 ⟨[.int .i64 x229, .int .i64 10]⟩ w10 fun e w41 => ∃ x230 : List UInt8, e = .returned (.string (mkS x230)) ∧ 
                                        R (.tuple ⟨[.string (mkS x230), .bool true]⟩) w41)) ∧ (decide (x16 = 18) = false →
                                    (decide (x16 = 19) = true →
                                      ∃ x235 : Int, w10.cell? ⟨w.heap.size, 5, none⟩ = some (.int .u64 x235) ∧ 
                                        ∃ x237 : Int, w10.cell? ⟨w.heap.size, 4, none⟩ = some (.int .u64 x237) ∧ 
                                        Calls prog 38 ⟨[.int .u64 x235, .int .u64 x237]⟩ w10 fun e w42 => ∃ x238 : List Value, e = .returned (.agg ⟨x238⟩) ∧ 
                                        Calls prog 37 ⟨[.agg ⟨x238⟩]⟩ w42 fun e w43 => ∃ x239 : List UInt8, e = .returned (.string (mkS x239)) ∧ 
                                        [34].length + x239.length ≤ 9223372036854775807 ∧ 
                                        ([34] ++ x239).length + [34].length ≤ 9223372036854775807 ∧ 
                                        Calls prog 25 ⟨[.string (mkS [36, 110, 117, 109, 98, 101, 114, 68, 101, 99, 105, 109, 97, 108]), .string (mkS (([34] ++ x239) ++ [34]))]⟩ w43 fun e w44 => ∃ x242 : List UInt8, ∃ x242_1 : Bool, e = .returned (.tuple ⟨[.string (mkS x242), .bool x242_1]⟩) ∧ 
                                        R (.tuple ⟨[.string (mkS x242), .bool x242_1]⟩) w44) ∧ (decide (x16 = 19) = false →
                                      (decide (x16 = 255) = true →
                                        Calls prog 25 ⟨[.string (mkS [36, 109, 105, 110, 75, 101, 121]), .string (mkS [49])]⟩ w10 fun e w45 => ∃ x248 : List UInt8, ∃ x248_1 : Bool, e = .returned (.tuple ⟨[.string (mkS x248), .bool x248_1]⟩) ∧ 
                                          R (.tuple ⟨[.string (mkS x248), .bool x248_1]⟩) w45) ∧ (decide (x16 = 255) = false →
                                        (decide (x16 = 127) = true →
                                          Calls prog 25 ⟨[.string (mkS [36, 109, 97, 120, 75, 101, 121]), .string (mkS [49])]⟩ w10 fun e w46 => ∃ x254 : List UInt8, ∃ x254_1 : Bool, e = .returned (.tuple ⟨[.string (mkS x254), .bool x254_1]⟩) ∧ 
                                            R (.tuple ⟨[.string (mkS x254), .bool x254_1]⟩) w46) ∧ (decide (x16 = 127) = false →
                                          R (.tuple ⟨[.string (mkS []), .bool false]⟩) w10))))))))))))))))))) → Kx_1 x47 w10) →
      (decide (x16 = 3) = true →
      Kx_1 (decide (x16 = 3)) w2) ∧ (decide (x16 = 3) = false →
      Kx_1 (decide (x16 = 4)) w2)))
def an9 : Ann :=
  .seq (.reg (.text []))
  (.seq (.reg (.text []))
  (.seq (.reg (.text []))
  (.seq (.seq (.reg (.text [.p .n, .p (.sh [.int .i64])]))
  (.block (.seq (.reg (.text []))
  (.cond 1 2 (.seq (.reg (.text [.p .n, .p (.sh [.int .u64]), .p (.sh [.float])]))
  (.seq (.reg (.text [.p .n, .p (.sh [.str])]))
  (.seq (.cut [(32, .bool)] [9, 11] (.reg (.text [.p .n, .p .n, .gs .n 5 6, .on 6 (.p (.sh [.bool])) (.p .n), .p .n, .p .n, .on 6 (.gs .n 7 8) (.p .n), .on 8 (.p (.sh [.bool])) (.p .n)]))
  (.cond 3 4 (.seq (.reg (.text [.p .n, .p .n, .p .n, .p .n, .p (.sh [.str, .bool])]))
  .leaf) .leaf))
  (.seq (.reg (.text []))
  .leaf)))) (.seq (.reg (.text []))
  (.cond 9 10 (.seq (.reg (.text [.p .n, .p .n, .p (.sh [.str]), .p (.sh [.str])]))
  .leaf) (.cut [(47, .bool)] [1, 3, 5, 8, 9, 16] (.seq (.reg (.text []))
  (.cond 53 54 .leaf (.reg (.text []))))
  (.cond 11 12 (.seq (.reg (.text [.p (.sh [.int .i64, .str, .str, .int .i64, .int .u64, .int .u64, .slice, .slice]), .p .n, .p (.sh [.bool]), .p (.sh [.str, .bool])]))
  .leaf) (.seq (.reg (.text []))
  (.cond 13 14 (.seq (.reg (.held [9, 12] (.take 0 (.p .n) (.take 1 (.p .n) (.take 2 (.p (.sh [.slice])) (.take 6 (.p .n) (.take 7 (.p (.sh [.int .i64])) (.take 8 (.p .n) (.run 3 (.p (.sh [.str])) (.take 4 (.p .n) (.take 5 (.p .n) (.run 9 (.p (.sh [.str])) (.take 10 (.p .n) (.take 11 (.p .n) (.run 12 (.p (.sh [.str, .bool])) (.take 13 (.p .n) (.take 14 (.p .n) (.take 15 (.p .n) (.take 16 (.p .n) .done)))) .done))) .done))) .done)))))))))
  .leaf) (.seq (.reg (.text []))
  (.cond 15 16 (.seq (.reg (.text [.p .n, .p (.sh [.str, .bool])]))
  .leaf) (.seq (.reg (.text []))
  (.cond 17 18 (.seq (.reg (.text [.p .n, .p .n, .p (.sh [.slice]), .p (.sh [.str]), .p (.sh [.str, .bool])]))
  .leaf) (.seq (.reg (.text []))
  (.cond 19 20 (.seq (.seq (.reg (.text [.p .n, .p (.sh [.int .i64])]))
  (.cond 21 22 (.seq (.reg (.text []))
  .leaf) .leaf))
  (.seq (.reg (.text []))
  .leaf)) (.seq (.reg (.text []))
  (.cond 23 24 (.seq (.reg (.text [.p .n, .p .n, .p (.sh [.int .i64]), .p (.sh [.str]), .p .n, .p .n, .p (.sh [.str, .bool])]))
  .leaf) (.seq (.reg (.text []))
  (.cond 25 26 (.seq (.reg (.text []))
  .leaf) (.seq (.reg (.text []))
  (.cond 27 28 (.seq (.reg (.held [10, 11, 14] (.take 0 (.p .n) (.take 1 (.p .n) (.take 2 (.p .n) (.take 3 (.p (.sh [.str])) (.take 7 (.p .n) (.take 8 (.p .n) (.take 9 (.p (.sh [.str])) (.run 4 (.p (.sh [.str])) (.take 5 (.p .n) (.take 6 (.p .n) (.run 10 (.p (.sh [.str])) (.run 11 (.p (.sh [.str])) (.take 12 (.p .n) (.take 13 (.p .n) (.run 14 (.p (.sh [.str, .bool])) (.take 15 (.p .n) (.take 16 (.p .n) (.take 17 (.p .n) (.take 18 (.p .n) .done)))) .done))) .done) .done))) .done))))))))))
  .leaf) (.seq (.reg (.text []))
  (.cond 29 30 (.seq (.reg (.held [9, 12] (.take 0 (.p .n) (.take 1 (.p .n) (.take 2 (.p .n) (.take 3 (.p (.sh [.str])) (.take 7 (.p .n) (.take 8 (.p (.sh [.slice])) (.run 4 (.p (.sh [.str])) (.take 5 (.p .n) (.take 6 (.p .n) (.run 9 (.p (.sh [.str])) (.take 10 (.p .n) (.take 11 (.p .n) (.run 12 (.p (.sh [.str, .bool])) (.take 13 (.p .n) (.take 14 (.p .n) (.take 15 (.p .n) (.take 16 (.p .n) .done)))) .done))) .done))) .done)))))))))
  .leaf) (.seq (.reg (.text []))
  (.cond 31 32 (.seq (.reg (.text [.p .n, .p .n, .p .n, .p (.sh [.str]), .p (.sh [.str]), .p (.sh [.str, .bool])]))
  .leaf) (.seq (.reg (.text []))
  (.cond 33 34 (.seq (.reg (.text [.p .n, .p .n, .p .n, .p (.sh [.str]), .p (.sh [.str]), .p (.sh [.str, .bool])]))
  .leaf) (.seq (.reg (.text []))
  (.cond 35 36 (.seq (.reg (.text [.p .n, .p (.sh [.slice]), .p .n, .p .n, .p (.sh [.bool]), .p (.sh [.str, .bool])]))
  (.seq (.reg (.text [.p .n, .p .n, .p (.sh [.str]), .p (.sh [.str])]))
  .leaf)) (.seq (.reg (.text []))
  (.cond 37 38 (.seq (.seq (.reg (.text []))
  (.cond 39 40 (.seq (.reg (.text [.p .n, .p .n, .p (.sh [.int .i64]), .p (.sh [.str]), .p .n, .p .n, .p (.sh [.str, .bool])]))
  .leaf) .leaf))
  (.seq (.reg (.text [.p .n, .p (.sh [.int .i64]), .p (.sh [.str])]))
  .leaf)) (.seq (.reg (.text []))
  (.cond 41 42 (.seq (.reg (.held [10, 13] (.take 0 (.p .n) (.take 1 (.p .n) (.take 2 (.p (.sh [.int .u64])) (.take 3 (.p .n) (.take 7 (.p .n) (.take 8 (.p (.sh [.int .u64])) (.take 9 (.p .n) (.run 4 (.p (.sh [.str])) (.take 5 (.p .n) (.take 6 (.p .n) (.run 10 (.p (.sh [.str])) (.take 11 (.p .n) (.take 12 (.p .n) (.run 13 (.p (.sh [.str, .bool])) (.take 14 (.p .n) (.take 15 (.p .n) (.take 16 (.p .n) (.take 17 (.p .n) .done)))) .done))) .done))) .done))))))))))
  .leaf) (.seq (.reg (.text []))
  (.cond 43 44 (.seq (.seq (.reg (.text []))
  (.cond 45 46 (.seq (.reg (.text [.p .n, .p .n, .p (.sh [.int .i64]), .p (.sh [.str]), .p .n, .p .n, .p (.sh [.str, .bool])]))
  .leaf) .leaf))
  (.seq (.reg (.text [.p .n, .p (.sh [.int .i64]), .p (.sh [.str])]))
  .leaf)) (.seq (.reg (.text []))
  (.cond 47 48 (.seq (.reg (.text [.p .n, .p .n, .p (.sh [.int .u64]), .p .n, .p (.sh [.int .u64]), .p (.sh [.agg]), .p (.sh [.str]), .p .n, .p .n, .p (.sh [.str, .bool])]))
  .leaf) (.seq (.reg (.text []))
  (.cond 49 50 (.seq (.reg (.text [.p .n, .p (.sh [.str, .bool])]))
  .leaf) (.seq (.reg (.text []))
  (.cond 51 52 (.seq (.reg (.text [.p .n, .p (.sh [.str, .bool])]))
  .leaf) .leaf))))))))))))))))))))))))))))))))))))))))))
  (.seq (.reg (.text []))
  .leaf))))
theorem vcE9 (xKind : Int) (xText : List UInt8) (xMore : List UInt8) (xN : Int) (xBits : Int) (xHigh : Int) (xB : Option Addr) (xB_n xB_c : Nat) (xKids : Option Addr) (xKids_n xKids_c : Nat) (canonical : Bool) (escape : Bool) (w : World) (R : Value → World → Prop) : vcFn prog f9 an9 [.agg ⟨[.int .i64 xKind, .string (mkS xText), .string (mkS xMore), .int .i64 xN, .int .u64 xBits, .int .u64 xHigh, .slice xB xB_n xB_c, .slice xKids xKids_n xKids_c]⟩, .bool canonical, .bool escape] w R = VC9 xKind xText xMore xN xBits xHigh xB xB_n xB_c xKids xKids_n xKids_c canonical escape w R := by kernel_rfl
theorem c9 (xKind : Int) (xText : List UInt8) (xMore : List UInt8) (xN : Int) (xBits : Int) (xHigh : Int) (xB : Option Addr) (xB_n xB_c : Nat) (xKids : Option Addr) (xKids_n xKids_c : Nat) (canonical : Bool) (escape : Bool) (w : World) (R : Value → World → Prop) (hvc : VC9 xKind xText xMore xN xBits xHigh xB xB_n xB_c xKids xKids_n xKids_c canonical escape w R) : Calls prog 9 ⟨[.agg ⟨[.int .i64 xKind, .string (mkS xText), .string (mkS xMore), .int .i64 xN, .int .u64 xBits, .int .u64 xHigh, .slice xB xB_n xB_c, .slice xKids xKids_n xKids_c]⟩, .bool canonical, .bool escape]⟩ w fun e w' => ∃ v, e = .returned v ∧ R v w' :=
  vc_calls mixed (fn := f9) (ann := an9) (by kernel_rfl) ((vcE9 xKind xText xMore xN xBits xHigh xB xB_n xB_c xKids xKids_n xKids_c canonical escape w R).symm ▸ hvc)

end Go.Proofs.Tryz
/- The reference: the text of a floating-point number (given the shortest decimal). -/
set_option linter.unusedVariables false
namespace Go.Proofs.Tryz
open Go.Vc Go.RowKit Go.Sort

def nanB (n : Nat) : Bool := FloatKind.f64.format.order n n != some .eq
def infB (n : Nat) : Bool := FloatKind.f64.format.order n 9218868437227405311 == some .gt
def ninfB (n : Nat) : Bool := FloatKind.f64.format.order (Op.negFloat .f64 n) 9218868437227405311 == some .gt
/-- The tables that the library reads. -/
def tenHi (i : Nat) : Int := (Go.Pinned.pow10Rows[i]?.getD (0, 0)).1
def tenLo (i : Nat) : Int := (Go.Pinned.pow10Rows[i]?.getD (0, 0)).2
structure Tabs (w : World) : Prop where
  pow : Pow w
  size : 15 < w.heap.size
  ten : ∀ i, i < 696 → w.cell? ⟨15, 2 * i, none⟩ = some (.int .u64 (tenHi i)) ∧ w.cell? ⟨15, 2 * i + 1, none⟩ = some (.int .u64 (tenLo i))
theorem Tabs.keeps {w w' : World} (h : Tabs w) (k : Keeps w w') : Tabs w' := ⟨tabIs_keeps k h.pow, Nat.lt_of_lt_of_le h.size k.size, fun i hi => ⟨k.cell (h.ten i hi).1, k.cell (h.ten i hi).2⟩⟩
/-- 'F' is what FormatFloat answers at 'G', -1, 64, where the number is finite. -/
def FloatIs (F : Nat → List UInt8) : Prop := ∀ n, (F n).length ≤ 100 ∧ (n < 18446744073709551616 → ∀ w, Tabs w → Ret 61 [.float .f64 n, .int .u8 71, .int .i64 (-1), .int .i64 64] w (.string (mkS (F n))))

theorem ret28 (n : Nat) (w : World) : Ret 28 [.float .f64 n] w (.bool (nanB n)) := Ret.of (c28 _ w _ ⟨rfl, Keeps.refl _⟩)
theorem ret29p (n : Nat) (w : World) : Ret 29 [.float .f64 n, .int .i64 1] w (.bool (infB n)) := by
  refine Ret.of (c29 _ _ w _ ?_)
  unfold VC29
  exact ⟨fun h => absurd (of_decide_eq_true h) (by decide), fun _ => ⟨fun h => absurd (of_decide_eq_true h) (by decide), fun _ => ⟨rfl, Keeps.refl _⟩⟩⟩
theorem ret29n (n : Nat) (w : World) : Ret 29 [.float .f64 n, .int .i64 (-1)] w (.bool (ninfB n)) := by
  refine Ret.of (c29 _ _ w _ ?_)
  unfold VC29
  exact ⟨fun h => absurd (of_decide_eq_true h) (by decide), fun _ => ⟨fun _ => ⟨_, w, rfl, rfl, Keeps.refl _⟩, fun h => absurd (of_decide_eq_false h) (by decide)⟩⟩

def dotB (s : List UInt8) : Bool := s.any fun b => b == 46 || b == 69
def dblF (F : Nat → List UInt8) (n : Nat) : List UInt8 :=
  if nanB n then [78, 97, 78] else if infB n then [73, 110, 102, 105, 110, 105, 116, 121] else if ninfB n then [45, 73, 110, 102, 105, 110, 105, 116, 121]
  else if dotB (F n) then F n else F n ++ [46, 48]
theorem u8_eq_iff (b : UInt8) (n : Nat) (h : n < 256) : ((b.toNat : Int) = (n : Int)) ↔ b = UInt8.ofNat n := by
  constructor
  · intro e
    apply UInt8.toNat_inj.1
    have := u8_toNat_ofNat n h
    omega
  · rintro rfl; exact u8_toNat_ofNat n h

theorem ret27 {F : Nat → List UInt8} (hF : FloatIs F) (n : Nat) (hn : n < 18446744073709551616) (w : World) (ht : Tabs w) : Ret 27 [.float .f64 n] w (.string (mkS (dblF F n))) := by
  refine Ret.of (c27 _ w _ ?_)
  unfold VC27 dblF
  refine (ret28 n w).go fun w1 hk1 => ⟨_, rfl, fun h => ?_, fun h => ?_⟩
  · rw [if_pos h]; exact ⟨rfl, hk1⟩
  · rw [h]
    simp only [Bool.false_eq_true, if_false]
    refine (ret29p n w1).go fun w2 hk2 => ⟨_, rfl, fun h1 => ?_, fun h1 => ?_⟩
    · rw [if_pos h1]; exact ⟨rfl, hk1.trans hk2⟩
    · rw [h1]
      simp only [Bool.false_eq_true, if_false]
      refine (ret29n n w2).go fun w3 hk3 => ⟨_, rfl, fun h2 => ?_, fun h2 => ?_⟩
      · rw [if_pos h2]; exact ⟨rfl, (hk1.trans hk2).trans hk3⟩
      · rw [h2]
        simp only [Bool.false_eq_true, if_false]
        have hk3' := (hk1.trans hk2).trans hk3
        have hl := (hF n).1
        have hr := (hF n).2 hn w3 (ht.keeps hk3')
        generalize F n = s at *
        refine hr.go fun w4 hk4 => ⟨_, rfl, fun m i w5 => w5 = w4 ∧ ∃ k : Nat, i = k ∧ k ≤ s.length ∧ m = s.length - k ∧ dotB s = dotB (s.drop k), ⟨s.length, rfl, 0, rfl, by omega, rfl, rfl⟩, ?_⟩
        have hk4' := hk3'.trans hk4
        rintro m i w5 ⟨rfl, k, rfl, hkl, rfl, hd⟩
        refine ⟨fun hlt => ?_, fun hge => ?_⟩
        · have hlt := of_decide_eq_true hlt
          have hget := List.getElem?_eq_getElem (show k < s.length by omega)
          have hdc : s.drop k = s[k]'(by omega) :: s.drop (k + 1) := List.drop_eq_getElem_cons (by omega)
          generalize s[k]'(by omega) = b at *
          have e46 := u8_eq_iff b 46 (by decide)
          have e69 := u8_eq_iff b 69 (by decide)
          have hdb : dotB (s.drop k) = (b == 46 || b == 69 || dotB (s.drop (k + 1))) := by rw [hdc]; simp [dotB]
          refine ⟨b, ⟨by omega, hget⟩, fun h46 => ⟨?_, hk4'⟩, fun h46 => ⟨b, ⟨by omega, hget⟩, fun h69 => ⟨?_, hk4'⟩, fun h69 => ⟨_, i64w (by omega) (by omega), s.length - (k + 1), by omega, rfl, k + 1, by omega, by omega, rfl, ?_⟩⟩⟩
          · have : b = 46 := e46.1 (of_decide_eq_true h46)
            rw [hd, hdb, this]; rfl
          · have : b = 69 := e69.1 (of_decide_eq_true h69)
            rw [hd, hdb, this]; rfl
          · have n46 : (b == 46) = false := beq_false_of_ne fun e => of_decide_eq_false h46 (e46.2 e)
            have n69 : (b == 69) = false := beq_false_of_ne fun e => of_decide_eq_false h69 (e69.2 e)
            rw [hd, hdb, n46, n69]; rfl
        · have hge := of_decide_eq_false hge
          have hdn : s.drop k = [] := List.drop_eq_nil_of_le (by omega)
          have hf : dotB s = false := by rw [hd, hdn]; rfl
          rw [hf]
          exact ⟨by simp; omega, rfl, hk4'⟩

theorem ret23 (s : List UInt8) (a : Addr) (e : Bool) (w : World) (hl : s.length ≤ 1099511627776) (ha : w.cell? a = some (.bool e)) : Ret 23 [.string (mkS s), .pointer (some a)] w (.string (mkS (strF e s))) :=
  Ret.of (c23 s a w _ ⟨e, ha, (ret24 s e w hl).go fun w1 hk1 => ⟨_, rfl, rfl, hk1⟩⟩)
/-- A wrapper. -/
def wrapF (name s : List UInt8) : List UInt8 := [123, 34] ++ name ++ [34, 58] ++ s ++ [125]
theorem ret25 (name s : List UInt8) (w : World) (h : name.length + s.length ≤ 4611686018427387904) : Ret 25 [.string (mkS name), .string (mkS s)] w (.tuple ⟨[.string (mkS (wrapF name s)), .bool true]⟩) :=
  Ret.of (c25 name s w _ ⟨by simp; omega, by simp; omega, by simp; omega, by simp; omega, rfl, Keeps.refl _⟩)
end Go.Proofs.Tryz
