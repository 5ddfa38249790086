/- A part of a proof. -/
import Derived.Test.YtfofafjemgfobaaGreatDoorZ4
set_option linter.unusedVariables false
set_option maxRecDepth 100000
namespace Go.Proofs.Tryz
open Go.Vc

/- F178: bson.extJSONValueWriter).WriteDouble -/
def VC178 (ejvw : Addr) (f : Nat) (w : World) (R : Value → World → Prop) : Prop :=
  Calls prog 68 ⟨[.pointer (some ejvw), .int .i64 0, .string (mkS [87, 114, 105, 116, 101, 68, 111, 117, 98, 108, 101]), .slice none 0 0]⟩ w fun e w1 => e = .returned .nilIface ∧ 
  Calls prog 231 ⟨[.float .f64 f]⟩ w1 fun e w2 => ∃ x13 : List UInt8, e = .returned (.string (mkS x13)) ∧ 
  ∀ Kx : World → Prop, (∀ w3,
  (∃ (x45 : Option Addr) (x45_n x45_c : Nat), w3.cell? (ejvw.add 1) = some (.slice x45 x45_n x45_c) ∧ 
    ∀ w4, w4 = w3.alloc (.cells ⟨[.int .u8 44]⟩ 5) → 
    ∃ (x47 : Option Addr) (x47_n x47_c : Nat), ∃ w5, BuiltinOk prog .append #[23, 23] 23 [false, false] [.slice x45 x45_n x45_c, .slice (some (⟨w3.heap.size, 0, none⟩)) 1 1] w4 (.slice x47 x47_n x47_c) w5 ∧ 
    CanStore w5 (ejvw.add 1) (.slice x47 x47_n x47_c) ∧ ∀ w6, w6 = w5.setCell (ejvw.add 1) (.slice x47 x47_n x47_c) → 
    Calls prog 132 ⟨[.pointer (some ejvw)]⟩ w6 fun e w7 => e = .returned (.tuple ⟨[]⟩) ∧ 
    R .nilIface w7) → Kx w3) →
  ∃ x17 : Bool, w2.cell? (ejvw.add 4) = some (.bool x17) ∧ 
  (x17 = true →
  Calls prog 232 ⟨[.pointer (some ejvw), .string (mkS [110, 117, 109, 98, 101, 114, 68, 111, 117, 98, 108, 101]), .string (mkS x13), .bool true]⟩ w2 fun e w8 => e = .returned (.tuple ⟨[]⟩) ∧ 
    Kx w8) ∧ (x17 = false →
  ∀ Kx_1 : List UInt8 → World → Prop, (∀ s : List UInt8, ∀ w9,
    (∃ (x35 : Option Addr) (x35_n x35_c : Nat), w9.cell? (ejvw.add 1) = some (.slice x35 x35_n x35_c) ∧ 
      ∃ (x37 : Option Addr) (x37_n x37_c : Nat), ∃ w10, (convert 9 23 (.string (mkS s))).run prog w9 = .ok (.slice x37 x37_n x37_c) w10 ∧ 
      ∃ (x38 : Option Addr) (x38_n x38_c : Nat), ∃ w11, BuiltinOk prog .append #[23, 23] 23 [false, false] [.slice x35 x35_n x35_c, .slice x37 x37_n x37_c] w10 (.slice x38 x38_n x38_c) w11 ∧ 
      CanStore w11 (ejvw.add 1) (.slice x38 x38_n x38_c) ∧ ∀ w12, w12 = w11.setCell (ejvw.add 1) (.slice x38 x38_n x38_c) → 
      Kx w12) → Kx_1 s w9) →
    (decide (x13 = [73, 110, 102, 105, 110, 105, 116, 121]) = true →
    [123, 34, 36, 110, 117, 109, 98, 101, 114, 68, 111, 117, 98, 108, 101, 34, 58, 34].length + x13.length ≤ 9223372036854775807 ∧ 
      ([123, 34, 36, 110, 117, 109, 98, 101, 114, 68, 111, 117, 98, 108, 101, 34, 58, 34] ++ x13).length + [34, 125].length ≤ 9223372036854775807 ∧ 
      Kx_1 (([123, 34, 36, 110, 117, 109, 98, 101, 114, 68, 111, 117, 98, 108, 101, 34, 58, 34] ++ x13) ++ [34, 125]) w2) ∧ (decide (x13 = [73, 110, 102, 105, 110, 105, 116, 121]) = false →
    (decide (x13 = [45, 73, 110, 102, 105, 110, 105, 116, 121]) = true →
      [123, 34, 36, 110, 117, 109, 98, 101, 114, 68, 111, 117, 98, 108, 101, 34, 58, 34].length + x13.length ≤ 9223372036854775807 ∧ 
        ([123, 34, 36, 110, 117, 109, 98, 101, 114, 68, 111, 117, 98, 108, 101, 34, 58, 34] ++ x13).length + [34, 125].length ≤ 9223372036854775807 ∧ 
        Kx_1 (([123, 34, 36, 110, 117, 109, 98, 101, 114, 68, 111, 117, 98, 108, 101, 34, 58, 34] ++ x13) ++ [34, 125]) w2) ∧ (decide (x13 = [45, 73, 110, 102, 105, 110, 105, 116, 121]) = false →
      (decide (x13 = [78, 97, 78]) = true →
        [123, 34, 36, 110, 117, 109, 98, 101, 114, 68, 111, 117, 98, 108, 101, 34, 58, 34].length + x13.length ≤ 9223372036854775807 ∧ 
          ([123, 34, 36, 110, 117, 109, 98, 101, 114, 68, 111, 117, 98, 108, 101, 34, 58, 34] ++ x13).length + [34, 125].length ≤ 9223372036854775807 ∧ 
          Kx_1 (([123, 34, 36, 110, 117, 109, 98, 101, 114, 68, 111, 117, 98, 108, 101, 34, 58, 34] ++ x13) ++ [34, 125]) w2) ∧ (decide (x13 = [78, 97, 78]) = false →
        Kx_1 x13 w2))))
def an178 : Ann :=
  .seq (.reg (.text []))
  (.seq (.seq (.reg (.text [.p .n, .p (.sh [.nil])]))
  (.seq (.reg (.text []))
  (.no .leaf)))
  (.seq (.reg (.text [.p .n, .p (.sh [.str])]))
  (.cut [] [0] (.seq (.reg (.text [.p .n, .p .n, .p .n, .p (.sh [.bool])]))
  (.cond 1 2 (.reg (.text [.p .n, .p .n, .p (.sh [])])) (.cut [(6, .str)] [0] (.seq (.reg (.text []))
  (.block (.seq (.block (.block (.block (.seq (.seq (.seq (.reg (.text []))
  (.cond 3 4 .leaf .leaf))
  (.seq (.seq (.reg (.text []))
  (.cond 5 6 .leaf .leaf))
  (.seq (.reg (.text []))
  (.cond 7 8 .leaf .leaf))))
  .leaf))))
  (.seq (.reg (.text []))
  .leaf))))
  (.reg (.text [.p .n, .p .n, .p .n, .p .n, .p (.sh [.slice]), .p .n, .p (.sh [.slice]), .p (.sh [.slice])])))))
  (.seq (.reg (.text [.p .n, .p .n, .p .n, .p .n, .p (.sh [.slice]), .p .n, .p (.sh [.slice])]))
  (.seq (.reg (.text [.p .n, .p (.sh [])]))
  (.seq (.reg (.text []))
  .leaf))))))
theorem vcE178 (ejvw : Addr) (f : Nat) (w : World) (R : Value → World → Prop) : vcFn prog f178 an178 [.pointer (some ejvw), .float .f64 f] w R = VC178 ejvw f w R := by kernel_rfl
theorem c178 (ejvw : Addr) (f : Nat) (w : World) (R : Value → World → Prop) (hvc : VC178 ejvw f w R) : Calls prog 178 ⟨[.pointer (some ejvw), .float .f64 f]⟩ w fun e w' => ∃ v, e = .returned v ∧ R v w' :=
  vc_calls mixed (fn := f178) (ann := an178) (by kernel_rfl) ((vcE178 ejvw f w R).symm ▸ hvc)

/- F179: bson.extJSONValueWriter).WriteString -/
def VC179 (ejvw : Addr) (s : List UInt8) (w : World) (R : Value → World → Prop) : Prop :=
  Calls prog 68 ⟨[.pointer (some ejvw), .int .i64 0, .string (mkS [87, 114, 105, 116, 101, 83, 116, 114, 105, 110, 103]), .slice none 0 0]⟩ w fun e w1 => e = .returned .nilIface ∧ 
  ∀ w2, w2 = w1.alloc (.cells ⟨[.slice none 0 0, .int .i64 0, .int .i8 0]⟩ 69) → 
  ∃ x16 : Bool, w2.cell? (ejvw.add 5) = some (.bool x16) ∧ 
  Calls prog 125 ⟨[.string (mkS s), .pointer (some (⟨w1.heap.size, 0, none⟩)), .bool x16]⟩ w2 fun e w3 => e = .returned (.tuple ⟨[]⟩) ∧ 
  ∃ f : List (Addr × Value), Kept w3 f ∧
  ∃ (x22 : Option Addr) (x22_n x22_c : Nat), ((ejvw.add 1), .slice x22 x22_n x22_c) ∈ f ∧ 
  Calls prog 177 ⟨[.pointer (some (⟨w1.heap.size, 0, none⟩))]⟩ w3.drew fun e w4 => ∃ (x23 : Option Addr) (x23_n x23_c : Nat), e = .returned (.slice x23 x23_n x23_c) ∧ 
  Kept w4 f ∧ ∃ (x24 : Option Addr) (x24_n x24_c : Nat), ∃ w5, BuiltinOk prog .append #[23, 23] 23 [false, false] [.slice x22 x22_n x22_c, .slice x23 x23_n x23_c] w4 (.slice x24 x24_n x24_c) w5 ∧ 
  CanStore w5 (ejvw.add 1) (.slice x24 x24_n x24_c) ∧ ∀ w6, w6 = w5.setCell (ejvw.add 1) (.slice x24 x24_n x24_c) → 
  ∃ (x31 : Option Addr) (x31_n x31_c : Nat), w6.cell? (ejvw.add 1) = some (.slice x31 x31_n x31_c) ∧ 
  ∀ w7, w7 = w6.alloc (.cells ⟨[.int .u8 44]⟩ 5) → 
  ∃ (x33 : Option Addr) (x33_n x33_c : Nat), ∃ w8, BuiltinOk prog .append #[23, 23] 23 [false, false] [.slice x31 x31_n x31_c, .slice (some (⟨w6.heap.size, 0, none⟩)) 1 1] w7 (.slice x33 x33_n x33_c) w8 ∧ 
  CanStore w8 (ejvw.add 1) (.slice x33 x33_n x33_c) ∧ ∀ w9, w9 = w8.setCell (ejvw.add 1) (.slice x33 x33_n x33_c) → 
  Calls prog 132 ⟨[.pointer (some ejvw)]⟩ w9 fun e w10 => e = .returned (.tuple ⟨[]⟩) ∧ 
  R .nilIface w10
def an179 : Ann :=
  .seq (.reg (.text []))
  (.seq (.seq (.reg (.text [.p .n, .p (.sh [.nil])]))
  (.seq (.reg (.text []))
  (.no .leaf)))
  (.seq (.reg (.text []))
  (.seq (.reg (.text [.p .n, .p .n, .p .n, .p .n, .p (.sh [.bool]), .p (.sh [])]))
  (.seq (.reg (.held [6, 9] (.take 0 (.p .n) (.take 1 (.p .n) (.take 2 (.p .n) (.take 3 (.p .n) (.take 4 (.p (.sh [.slice])) (.run 5 (.p (.sh [.slice])) (.run 6 (.p (.sh [.slice])) (.take 7 (.p .n) (.take 8 (.p .n) (.run 9 (.p .n) .done .done))) .done) .done))))))))
  (.seq (.reg (.text [.p .n, .p .n, .p .n, .p .n, .p (.sh [.slice]), .p .n, .p (.sh [.slice])]))
  (.seq (.reg (.text [.p .n, .p (.sh [])]))
  (.seq (.reg (.text []))
  .leaf)))))))
theorem vcE179 (ejvw : Addr) (s : List UInt8) (w : World) (R : Value → World → Prop) : vcFn prog f179 an179 [.pointer (some ejvw), .string (mkS s)] w R = VC179 ejvw s w R := by kernel_rfl
theorem c179 (ejvw : Addr) (s : List UInt8) (w : World) (R : Value → World → Prop) (hvc : VC179 ejvw s w R) : Calls prog 179 ⟨[.pointer (some ejvw), .string (mkS s)]⟩ w fun e w' => ∃ v, e = .returned v ∧ R v w' :=
  vc_calls mixed (fn := f179) (ann := an179) (by kernel_rfl) ((vcE179 ejvw s w R).symm ▸ hvc)

/- F180: bson.extJSONValueWriter).WriteBinaryWithSubtype -/
def VC180 (ejvw : Addr) (b : Option Addr) (b_n b_c : Nat) (btype : Int) (w : World) (R : Value → World → Prop) : Prop :=
  Calls prog 68 ⟨[.pointer (some ejvw), .int .i64 0, .string (mkS [87, 114, 105, 116, 101, 66, 105, 110, 97, 114, 121, 87, 105, 116, 104, 83, 117, 98, 116, 121, 112, 101]), .slice none 0 0]⟩ w fun e w1 => e = .returned .nilIface ∧ 
  ∀ w2, w2 = w1.alloc (.cells ⟨[.slice none 0 0, .int .i64 0, .int .i8 0]⟩ 69) → 
  Calls prog 141 ⟨[.pointer (some (⟨w1.heap.size, 0, none⟩)), .string (mkS [123, 34, 36, 98, 105, 110, 97, 114, 121, 34, 58, 123, 34, 98, 97, 115, 101, 54, 52, 34, 58, 34])]⟩ w2 fun e w3 => ∃ x14 : Int, e = .returned (.tuple ⟨[.int .i64 x14, .nilIface]⟩) ∧ 
  Calls prog 233 ⟨[.slice b b_n b_c]⟩ w3 fun e w4 => ∃ x16 : List UInt8, e = .returned (.string (mkS x16)) ∧ 
  Calls prog 141 ⟨[.pointer (some (⟨w1.heap.size, 0, none⟩)), .string (mkS x16)]⟩ w4 fun e w5 => ∃ x17 : Int, e = .returned (.tuple ⟨[.int .i64 x17, .nilIface]⟩) ∧ 
  Calls prog 234 ⟨[.int .u8 btype]⟩ w5 fun e w6 => ∃ x19 : List UInt8, e = .returned (.string (mkS x19)) ∧ 
  [34, 44, 34, 115, 117, 98, 84, 121, 112, 101, 34, 58, 34].length + x19.length ≤ 9223372036854775807 ∧ 
  ([34, 44, 34, 115, 117, 98, 84, 121, 112, 101, 34, 58, 34] ++ x19).length + [34, 125, 125, 44].length ≤ 9223372036854775807 ∧ 
  Calls prog 141 ⟨[.pointer (some (⟨w1.heap.size, 0, none⟩)), .string (mkS (([34, 44, 34, 115, 117, 98, 84, 121, 112, 101, 34, 58, 34] ++ x19) ++ [34, 125, 125, 44]))]⟩ w6 fun e w7 => ∃ x22 : Int, e = .returned (.tuple ⟨[.int .i64 x22, .nilIface]⟩) ∧ 
  ∃ f : List (Addr × Value), Kept w7 f ∧
  ∃ (x27 : Option Addr) (x27_n x27_c : Nat), ((ejvw.add 1), .slice x27 x27_n x27_c) ∈ f ∧ 
  Calls prog 177 ⟨[.pointer (some (⟨w1.heap.size, 0, none⟩))]⟩ w7.drew fun e w8 => ∃ (x28 : Option Addr) (x28_n x28_c : Nat), e = .returned (.slice x28 x28_n x28_c) ∧ 
  Kept w8 f ∧ ∃ (x29 : Option Addr) (x29_n x29_c : Nat), ∃ w9, BuiltinOk prog .append #[23, 23] 23 [false, false] [.slice x27 x27_n x27_c, .slice x28 x28_n x28_c] w8 (.slice x29 x29_n x29_c) w9 ∧ 
  CanStore w9 (ejvw.add 1) (.slice x29 x29_n x29_c) ∧ ∀ w10, w10 = w9.setCell (ejvw.add 1) (.slice x29 x29_n x29_c) → 
  Calls prog 132 ⟨[.pointer (some ejvw)]⟩ w10 fun e w11 => e = .returned (.tuple ⟨[]⟩) ∧ 
  R .nilIface w11
def an180 : Ann :=
  .seq (.reg (.text []))
  (.seq (.seq (.reg (.text [.p .n, .p (.sh [.nil])]))
  (.seq (.reg (.text []))
  (.no .leaf)))
  (.seq (.reg (.text []))
  (.seq (.reg (.text [.p (.sh [.int .i64, .nil])]))
  (.seq (.reg (.text [.p .n, .p (.sh [.str]), .p (.sh [.int .i64, .nil])]))
  (.seq (.reg (.text [.p .n, .p (.sh [.str]), .p .n, .p .n, .p (.sh [.int .i64, .nil])]))
  (.seq (.reg (.held [6, 9] (.take 0 (.p .n) (.take 1 (.p .n) (.take 2 (.p .n) (.take 3 (.p .n) (.take 4 (.p (.sh [.slice])) (.run 5 (.p (.sh [.slice])) (.run 6 (.p (.sh [.slice])) (.take 7 (.p .n) (.take 8 (.p .n) (.run 9 (.p .n) .done .done))) .done) .done))))))))
  (.seq (.reg (.text [.p .n, .p (.sh [])]))
  (.seq (.reg (.text []))
  .leaf))))))))
theorem vcE180 (ejvw : Addr) (b : Option Addr) (b_n b_c : Nat) (btype : Int) (w : World) (R : Value → World → Prop) : vcFn prog f180 an180 [.pointer (some ejvw), .slice b b_n b_c, .int .u8 btype] w R = VC180 ejvw b b_n b_c btype w R := by kernel_rfl
theorem c180 (ejvw : Addr) (b : Option Addr) (b_n b_c : Nat) (btype : Int) (w : World) (R : Value → World → Prop) (hvc : VC180 ejvw b b_n b_c btype w R) : Calls prog 180 ⟨[.pointer (some ejvw), .slice b b_n b_c, .int .u8 btype]⟩ w fun e w' => ∃ v, e = .returned v ∧ R v w' :=
  vc_calls mixed (fn := f180) (ann := an180) (by kernel_rfl) ((vcE180 ejvw b b_n b_c btype w R).symm ▸ hvc)

/- F181: bson.extJSONValueWriter).WriteUndefined -/
def VC181 (ejvw : Addr) (w : World) (R : Value → World → Prop) : Prop :=
  Calls prog 68 ⟨[.pointer (some ejvw), .int .i64 0, .string (mkS [87, 114, 105, 116, 101, 85, 110, 100, 101, 102, 105, 110, 101, 100]), .slice none 0 0]⟩ w fun e w1 => e = .returned .nilIface ∧ 
  Calls prog 232 ⟨[.pointer (some ejvw), .string (mkS [117, 110, 100, 101, 102, 105, 110, 101, 100]), .string (mkS [116, 114, 117, 101]), .bool false]⟩ w1 fun e w2 => e = .returned (.tuple ⟨[]⟩) ∧ 
  ∃ (x15 : Option Addr) (x15_n x15_c : Nat), w2.cell? (ejvw.add 1) = some (.slice x15 x15_n x15_c) ∧ 
  ∀ w3, w3 = w2.alloc (.cells ⟨[.int .u8 44]⟩ 5) → 
  ∃ (x17 : Option Addr) (x17_n x17_c : Nat), ∃ w4, BuiltinOk prog .append #[23, 23] 23 [false, false] [.slice x15 x15_n x15_c, .slice (some (⟨w2.heap.size, 0, none⟩)) 1 1] w3 (.slice x17 x17_n x17_c) w4 ∧ 
  CanStore w4 (ejvw.add 1) (.slice x17 x17_n x17_c) ∧ ∀ w5, w5 = w4.setCell (ejvw.add 1) (.slice x17 x17_n x17_c) → 
  Calls prog 132 ⟨[.pointer (some ejvw)]⟩ w5 fun e w6 => e = .returned (.tuple ⟨[]⟩) ∧ 
  R .nilIface w6
def an181 : Ann :=
  .seq (.reg (.text []))
  (.seq (.seq (.reg (.text [.p .n, .p (.sh [.nil])]))
  (.seq (.reg (.text []))
  (.no .leaf)))
  (.seq (.reg (.text [.p .n, .p (.sh [])]))
  (.seq (.reg (.text [.p .n, .p .n, .p .n, .p .n, .p (.sh [.slice]), .p .n, .p (.sh [.slice])]))
  (.seq (.reg (.text [.p .n, .p (.sh [])]))
  (.seq (.reg (.text []))
  .leaf)))))
theorem vcE181 (ejvw : Addr) (w : World) (R : Value → World → Prop) : vcFn prog f181 an181 [.pointer (some ejvw)] w R = VC181 ejvw w R := by kernel_rfl
theorem c181 (ejvw : Addr) (w : World) (R : Value → World → Prop) (hvc : VC181 ejvw w R) : Calls prog 181 ⟨[.pointer (some ejvw)]⟩ w fun e w' => ∃ v, e = .returned v ∧ R v w' :=
  vc_calls mixed (fn := f181) (ann := an181) (by kernel_rfl) ((vcE181 ejvw w R).symm ▸ hvc)

/- F182: bson.extJSONValueWriter).WriteObjectID -/
def VC182 (ejvw : Addr) (oid0 : Int) (oid1 : Int) (oid2 : Int) (oid3 : Int) (oid4 : Int) (oid5 : Int) (oid6 : Int) (oid7 : Int) (oid8 : Int) (oid9 : Int) (oid10 : Int) (oid11 : Int) (w : World) (R : Value → World → Prop) : Prop :=
  ∀ w1, w1 = w.alloc (.cells ⟨[.int .u8 oid0, .int .u8 oid1, .int .u8 oid2, .int .u8 oid3, .int .u8 oid4, .int .u8 oid5, .int .u8 oid6, .int .u8 oid7, .int .u8 oid8, .int .u8 oid9, .int .u8 oid10, .int .u8 oid11]⟩ 307) → 
  Calls prog 68 ⟨[.pointer (some ejvw), .int .i64 0, .string (mkS [87, 114, 105, 116, 101, 79, 98, 106, 101, 99, 116, 73, 68]), .slice none 0 0]⟩ w1 fun e w2 => e = .returned .nilIface ∧ 
  ∃ x12 : Int, ∃ x12_1 : Int, ∃ x12_2 : Int, ∃ x12_3 : Int, ∃ x12_4 : Int, ∃ x12_5 : Int, ∃ x12_6 : Int, ∃ x12_7 : Int, ∃ x12_8 : Int, ∃ x12_9 : Int, ∃ x12_10 : Int, ∃ x12_11 : Int, LoadsRow prog 307 w2 ⟨w.heap.size, 0, none⟩ [.int .u8 x12, .int .u8 x12_1, .int .u8 x12_2, .int .u8 x12_3, .int .u8 x12_4, .int .u8 x12_5, .int .u8 x12_6, .int .u8 x12_7, .int .u8 x12_8, .int .u8 x12_9, .int .u8 x12_10, .int .u8 x12_11] ∧ 
  Calls prog 235 ⟨[.agg ⟨[.int .u8 x12, .int .u8 x12_1, .int .u8 x12_2, .int .u8 x12_3, .int .u8 x12_4, .int .u8 x12_5, .int .u8 x12_6, .int .u8 x12_7, .int .u8 x12_8, .int .u8 x12_9, .int .u8 x12_10, .int .u8 x12_11]⟩]⟩ w2 fun e w3 => ∃ x13 : List UInt8, e = .returned (.string (mkS x13)) ∧ 
  Calls prog 232 ⟨[.pointer (some ejvw), .string (mkS [111, 105, 100]), .string (mkS x13), .bool true]⟩ w3 fun e w4 => e = .returned (.tuple ⟨[]⟩) ∧ 
  ∃ (x19 : Option Addr) (x19_n x19_c : Nat), w4.cell? (ejvw.add 1) = some (.slice x19 x19_n x19_c) ∧ 
  ∀ w5, w5 = w4.alloc (.cells ⟨[.int .u8 44]⟩ 5) → 
  ∃ (x21 : Option Addr) (x21_n x21_c : Nat), ∃ w6, BuiltinOk prog .append #[23, 23] 23 [false, false] [.slice x19 x19_n x19_c, .slice (some (⟨w4.heap.size, 0, none⟩)) 1 1] w5 (.slice x21 x21_n x21_c) w6 ∧ 
  CanStore w6 (ejvw.add 1) (.slice x21 x21_n x21_c) ∧ ∀ w7, w7 = w6.setCell (ejvw.add 1) (.slice x21 x21_n x21_c) → 
  Calls prog 132 ⟨[.pointer (some ejvw)]⟩ w7 fun e w8 => e = .returned (.tuple ⟨[]⟩) ∧ 
  R .nilIface w8
def an182 : Ann :=
  .seq (.reg (.text []))
  (.seq (.seq (.reg (.text [.p .n, .p (.sh [.nil])]))
  (.seq (.reg (.text []))
  (.no .leaf)))
  (.seq (.reg (.text [.p .n, .p (.sh [.int .u8, .int .u8, .int .u8, .int .u8, .int .u8, .int .u8, .int .u8, .int .u8, .int .u8, .int .u8, .int .u8, .int .u8]), .p (.sh [.str]), .p (.sh [])]))
  (.seq (.reg (.text [.p .n, .p .n, .p .n, .p .n, .p (.sh [.slice]), .p .n, .p (.sh [.slice])]))
  (.seq (.reg (.text [.p .n, .p (.sh [])]))
  (.seq (.reg (.text []))
  .leaf)))))
theorem vcE182 (ejvw : Addr) (oid0 : Int) (oid1 : Int) (oid2 : Int) (oid3 : Int) (oid4 : Int) (oid5 : Int) (oid6 : Int) (oid7 : Int) (oid8 : Int) (oid9 : Int) (oid10 : Int) (oid11 : Int) (w : World) (R : Value → World → Prop) : vcFn prog f182 an182 [.pointer (some ejvw), .agg ⟨[.int .u8 oid0, .int .u8 oid1, .int .u8 oid2, .int .u8 oid3, .int .u8 oid4, .int .u8 oid5, .int .u8 oid6, .int .u8 oid7, .int .u8 oid8, .int .u8 oid9, .int .u8 oid10, .int .u8 oid11]⟩] w R = VC182 ejvw oid0 oid1 oid2 oid3 oid4 oid5 oid6 oid7 oid8 oid9 oid10 oid11 w R := by kernel_rfl
theorem c182 (ejvw : Addr) (oid0 : Int) (oid1 : Int) (oid2 : Int) (oid3 : Int) (oid4 : Int) (oid5 : Int) (oid6 : Int) (oid7 : Int) (oid8 : Int) (oid9 : Int) (oid10 : Int) (oid11 : Int) (w : World) (R : Value → World → Prop) (hvc : VC182 ejvw oid0 oid1 oid2 oid3 oid4 oid5 oid6 oid7 oid8 oid9 oid10 oid11 w R) : Calls prog 182 ⟨[.pointer (some ejvw), .agg ⟨[.int .u8 oid0, .int .u8 oid1, .int .u8 oid2, .int .u8 oid3, .int .u8 oid4, .int .u8 oid5, .int .u8 oid6, .int .u8 oid7, .int .u8 oid8, .int .u8 oid9, .int .u8 oid10, .int .u8 oid11]⟩]⟩ w fun e w' => ∃ v, e = .returned v ∧ R v w' :=
  vc_calls mixed (fn := f182) (ann := an182) (by kernel_rfl) ((vcE182 ejvw oid0 oid1 oid2 oid3 oid4 oid5 oid6 oid7 oid8 oid9 oid10 oid11 w R).symm ▸ hvc)

/- F184: bson.extJSONValueWriter).WriteBoolean -/
def VC184 (ejvw : Addr) (b : Bool) (w : World) (R : Value → World → Prop) : Prop :=
  Calls prog 68 ⟨[.pointer (some ejvw), .int .i64 0, .string (mkS [87, 114, 105, 116, 101, 66, 111, 111, 108, 101, 97, 110]), .slice none 0 0]⟩ w fun e w1 => e = .returned .nilIface ∧ 
  ∃ f : List (Addr × Value), Kept w1 f ∧
  ∃ (x15 : Option Addr) (x15_n x15_c : Nat), ((ejvw.add 1), .slice x15 x15_n x15_c) ∈ f ∧ 
  Calls prog 94 ⟨[.bool b]⟩ w1.drew fun e w2 => ∃ x17 : List UInt8, e = .returned (.string (mkS x17)) ∧ 
  Kept w2 f ∧ ∃ (x18 : Option Addr) (x18_n x18_c : Nat), ∃ w3, (convert 9 23 (.string (mkS x17))).run prog w2 = .ok (.slice x18 x18_n x18_c) w3 ∧ 
  Kept w3 f ∧ ∃ (x19 : Option Addr) (x19_n x19_c : Nat), ∃ w4, BuiltinOk prog .append #[23, 23] 23 [false, false] [.slice x15 x15_n x15_c, .slice x18 x18_n x18_c] w3 (.slice x19 x19_n x19_c) w4 ∧ 
  CanStore w4 (ejvw.add 1) (.slice x19 x19_n x19_c) ∧ ∀ w5, w5 = w4.setCell (ejvw.add 1) (.slice x19 x19_n x19_c) → 
  ∃ (x26 : Option Addr) (x26_n x26_c : Nat), w5.cell? (ejvw.add 1) = some (.slice x26 x26_n x26_c) ∧ 
  ∀ w6, w6 = w5.alloc (.cells ⟨[.int .u8 44]⟩ 5) → 
  ∃ (x28 : Option Addr) (x28_n x28_c : Nat), ∃ w7, BuiltinOk prog .append #[23, 23] 23 [false, false] [.slice x26 x26_n x26_c, .slice (some (⟨w5.heap.size, 0, none⟩)) 1 1] w6 (.slice x28 x28_n x28_c) w7 ∧ 
  CanStore w7 (ejvw.add 1) (.slice x28 x28_n x28_c) ∧ ∀ w8, w8 = w7.setCell (ejvw.add 1) (.slice x28 x28_n x28_c) → 
  Calls prog 132 ⟨[.pointer (some ejvw)]⟩ w8 fun e w9 => e = .returned (.tuple ⟨[]⟩) ∧ 
  R .nilIface w9
def an184 : Ann :=
  .seq (.reg (.text []))
  (.seq (.seq (.reg (.text [.p .n, .p (.sh [.nil])]))
  (.seq (.reg (.text []))
  (.no .leaf)))
  (.seq (.reg (.held [8, 11] (.take 0 (.p .n) (.take 1 (.p .n) (.take 2 (.p .n) (.take 3 (.p .n) (.take 4 (.p (.sh [.slice])) (.take 5 (.p .n) (.run 6 (.p (.sh [.str])) (.run 7 (.p (.sh [.slice])) (.run 8 (.p (.sh [.slice])) (.take 9 (.p .n) (.take 10 (.p .n) (.run 11 (.p .n) .done .done))) .done) .done) .done)))))))))
  (.seq (.reg (.text [.p .n, .p .n, .p .n, .p .n, .p (.sh [.slice]), .p .n, .p (.sh [.slice])]))
  (.seq (.reg (.text [.p .n, .p (.sh [])]))
  (.seq (.reg (.text []))
  .leaf)))))
theorem vcE184 (ejvw : Addr) (b : Bool) (w : World) (R : Value → World → Prop) : vcFn prog f184 an184 [.pointer (some ejvw), .bool b] w R = VC184 ejvw b w R := by kernel_rfl
theorem c184 (ejvw : Addr) (b : Bool) (w : World) (R : Value → World → Prop) (hvc : VC184 ejvw b w R) : Calls prog 184 ⟨[.pointer (some ejvw), .bool b]⟩ w fun e w' => ∃ v, e = .returned v ∧ R v w' :=
  vc_calls mixed (fn := f184) (ann := an184) (by kernel_rfl) ((vcE184 ejvw b w R).symm ▸ hvc)

/- F185: bson.extJSONValueWriter).WriteDateTime -/
def VC185 (ejvw : Addr) (dt : Int) (w : World) (R : Value → World → Prop) : Prop :=
  Calls prog 68 ⟨[.pointer (some ejvw), .int .i64 0, .string (mkS [87, 114, 105, 116, 101, 68, 97, 116, 101, 84, 105, 109, 101]), .slice none 0 0]⟩ w fun e w1 => e = .returned .nilIface ∧ 
  Calls prog 34 ⟨[.int .i64 dt, .int .i64 10]⟩ w1 fun e w2 => ∃ x13 : List UInt8, e = .returned (.string (mkS x13)) ∧ 
  [123, 34, 36, 110, 117, 109, 98, 101, 114, 76, 111, 110, 103, 34, 58, 34].length + x13.length ≤ 9223372036854775807 ∧ 
  ([123, 34, 36, 110, 117, 109, 98, 101, 114, 76, 111, 110, 103, 34, 58, 34] ++ x13).length + [34, 125].length ≤ 9223372036854775807 ∧ 
  Calls prog 232 ⟨[.pointer (some ejvw), .string (mkS [100, 97, 116, 101]), .string (mkS (([123, 34, 36, 110, 117, 109, 98, 101, 114, 76, 111, 110, 103, 34, 58, 34] ++ x13) ++ [34, 125])), .bool false]⟩ w2 fun e w3 => e = .returned (.tuple ⟨[]⟩) ∧ 
  ∃ (x23 : Option Addr) (x23_n x23_c : Nat), w3.cell? (ejvw.add 1) = some (.slice x23 x23_n x23_c) ∧ 
  ∀ w4, w4 = w3.alloc (.cells ⟨[.int .u8 44]⟩ 5) → 
  ∃ (x25 : Option Addr) (x25_n x25_c : Nat), ∃ w5, BuiltinOk prog .append #[23, 23] 23 [false, false] [.slice x23 x23_n x23_c, .slice (some (⟨w3.heap.size, 0, none⟩)) 1 1] w4 (.slice x25 x25_n x25_c) w5 ∧ 
  CanStore w5 (ejvw.add 1) (.slice x25 x25_n x25_c) ∧ ∀ w6, w6 = w5.setCell (ejvw.add 1) (.slice x25 x25_n x25_c) → 
  Calls prog 132 ⟨[.pointer (some ejvw)]⟩ w6 fun e w7 => e = .returned (.tuple ⟨[]⟩) ∧ 
  R .nilIface w7
def an185 : Ann :=
  .seq (.reg (.text []))
  (.seq (.seq (.reg (.text [.p .n, .p (.sh [.nil])]))
  (.seq (.reg (.text []))
  (.no .leaf)))
  (.seq (.reg (.text [.p .n, .p (.sh [.str])]))
  (.seq (.reg (.text [.p .n, .p .n, .p (.sh [])]))
  (.seq (.reg (.text [.p .n, .p .n, .p .n, .p .n, .p (.sh [.slice]), .p .n, .p (.sh [.slice])]))
  (.seq (.reg (.text [.p .n, .p (.sh [])]))
  (.seq (.reg (.text []))
  .leaf))))))
theorem vcE185 (ejvw : Addr) (dt : Int) (w : World) (R : Value → World → Prop) : vcFn prog f185 an185 [.pointer (some ejvw), .int .i64 dt] w R = VC185 ejvw dt w R := by kernel_rfl
theorem c185 (ejvw : Addr) (dt : Int) (w : World) (R : Value → World → Prop) (hvc : VC185 ejvw dt w R) : Calls prog 185 ⟨[.pointer (some ejvw), .int .i64 dt]⟩ w fun e w' => ∃ v, e = .returned v ∧ R v w' :=
  vc_calls mixed (fn := f185) (ann := an185) (by kernel_rfl) ((vcE185 ejvw dt w R).symm ▸ hvc)

/- F186: bson.extJSONValueWriter).WriteNull -/
def VC186 (ejvw : Addr) (w : World) (R : Value → World → Prop) : Prop :=
  Calls prog 68 ⟨[.pointer (some ejvw), .int .i64 0, .string (mkS [87, 114, 105, 116, 101, 78, 117, 108, 108]), .slice none 0 0]⟩ w fun e w1 => e = .returned .nilIface ∧ 
  ∃ (x13 : Option Addr) (x13_n x13_c : Nat), w1.cell? (ejvw.add 1) = some (.slice x13 x13_n x13_c) ∧ 
  ∀ w2, w2 = w1.alloc (.cells ⟨[.int .u8 110, .int .u8 117, .int .u8 108, .int .u8 108]⟩ 5) → 
  ∃ (x15 : Option Addr) (x15_n x15_c : Nat), ∃ w3, (convert 23 23 (.slice (some (⟨w1.heap.size, 0, none⟩)) 4 4)).run prog w2 = .ok (.slice x15 x15_n x15_c) w3 ∧ 
  ∃ (x16 : Option Addr) (x16_n x16_c : Nat), ∃ w4, BuiltinOk prog .append #[23, 23] 23 [false, false] [.slice x13 x13_n x13_c, .slice x15 x15_n x15_c] w3 (.slice x16 x16_n x16_c) w4 ∧ 
  CanStore w4 (ejvw.add 1) (.slice x16 x16_n x16_c) ∧ ∀ w5, w5 = w4.setCell (ejvw.add 1) (.slice x16 x16_n x16_c) → 
  ∃ (x23 : Option Addr) (x23_n x23_c : Nat), w5.cell? (ejvw.add 1) = some (.slice x23 x23_n x23_c) ∧ 
  ∀ w6, w6 = w5.alloc (.cells ⟨[.int .u8 44]⟩ 5) → 
  ∃ (x25 : Option Addr) (x25_n x25_c : Nat), ∃ w7, BuiltinOk prog .append #[23, 23] 23 [false, false] [.slice x23 x23_n x23_c, .slice (some (⟨w5.heap.size, 0, none⟩)) 1 1] w6 (.slice x25 x25_n x25_c) w7 ∧ 
  CanStore w7 (ejvw.add 1) (.slice x25 x25_n x25_c) ∧ ∀ w8, w8 = w7.setCell (ejvw.add 1) (.slice x25 x25_n x25_c) → 
  Calls prog 132 ⟨[.pointer (some ejvw)]⟩ w8 fun e w9 => e = .returned (.tuple ⟨[]⟩) ∧ 
  R .nilIface w9
def an186 : Ann :=
  .seq (.reg (.text []))
  (.seq (.seq (.reg (.text [.p .n, .p (.sh [.nil])]))
  (.seq (.reg (.text []))
  (.no .leaf)))
  (.seq (.reg (.text [.p .n, .p .n, .p .n, .p .n, .p (.sh [.slice]), .p .n, .p (.sh [.slice]), .p (.sh [.slice])]))
  (.seq (.reg (.text [.p .n, .p .n, .p .n, .p .n, .p (.sh [.slice]), .p .n, .p (.sh [.slice])]))
  (.seq (.reg (.text [.p .n, .p (.sh [])]))
  (.seq (.reg (.text []))
  .leaf)))))
theorem vcE186 (ejvw : Addr) (w : World) (R : Value → World → Prop) : vcFn prog f186 an186 [.pointer (some ejvw)] w R = VC186 ejvw w R := by kernel_rfl
theorem c186 (ejvw : Addr) (w : World) (R : Value → World → Prop) (hvc : VC186 ejvw w R) : Calls prog 186 ⟨[.pointer (some ejvw)]⟩ w fun e w' => ∃ v, e = .returned v ∧ R v w' :=
  vc_calls mixed (fn := f186) (ann := an186) (by kernel_rfl) ((vcE186 ejvw w R).symm ▸ hvc)

/- F187: bson.extJSONValueWriter).WriteRegex -/
def VC187 (ejvw : Addr) (pattern : List UInt8) (options : List UInt8) (w : World) (R : Value → World → Prop) : Prop :=
  Calls prog 68 ⟨[.pointer (some ejvw), .int .i64 0, .string (mkS [87, 114, 105, 116, 101, 82, 101, 103, 101, 120]), .slice none 0 0]⟩ w fun e w1 => e = .returned .nilIface ∧ 
  Calls prog 236 ⟨[.string (mkS options)]⟩ w1 fun e w2 => ∃ x15 : List UInt8, e = .returned (.string (mkS x15)) ∧ 
  ∀ w3, w3 = w2.alloc (.cells ⟨[.slice none 0 0, .int .i64 0, .int .i8 0]⟩ 69) → 
  Calls prog 141 ⟨[.pointer (some (⟨w2.heap.size, 0, none⟩)), .string (mkS [123, 34, 36, 114, 101, 103, 117, 108, 97, 114, 69, 120, 112, 114, 101, 115, 115, 105, 111, 110, 34, 58, 123, 34, 112, 97, 116, 116, 101, 114, 110, 34, 58])]⟩ w3 fun e w4 => ∃ x16 : Int, e = .returned (.tuple ⟨[.int .i64 x16, .nilIface]⟩) ∧ 
  ∃ x21 : Bool, w4.cell? (ejvw.add 5) = some (.bool x21) ∧ 
  Calls prog 125 ⟨[.string (mkS pattern), .pointer (some (⟨w2.heap.size, 0, none⟩)), .bool x21]⟩ w4 fun e w5 => e = .returned (.tuple ⟨[]⟩) ∧ 
  Calls prog 141 ⟨[.pointer (some (⟨w2.heap.size, 0, none⟩)), .string (mkS [44, 34, 111, 112, 116, 105, 111, 110, 115, 34, 58])]⟩ w5 fun e w6 => ∃ x23 : Int, e = .returned (.tuple ⟨[.int .i64 x23, .nilIface]⟩) ∧ 
  ∃ x28 : Bool, w6.cell? (ejvw.add 5) = some (.bool x28) ∧ 
  Calls prog 125 ⟨[.string (mkS x15), .pointer (some (⟨w2.heap.size, 0, none⟩)), .bool x28]⟩ w6 fun e w7 => e = .returned (.tuple ⟨[]⟩) ∧ 
  Calls prog 141 ⟨[.pointer (some (⟨w2.heap.size, 0, none⟩)), .string (mkS [125, 125, 44])]⟩ w7 fun e w8 => ∃ x30 : Int, e = .returned (.tuple ⟨[.int .i64 x30, .nilIface]⟩) ∧ 
  ∃ f : List (Addr × Value), Kept w8 f ∧
  ∃ (x35 : Option Addr) (x35_n x35_c : Nat), ((ejvw.add 1), .slice x35 x35_n x35_c) ∈ f ∧ 
  Calls prog 177 ⟨[.pointer (some (⟨w2.heap.size, 0, none⟩))]⟩ w8.drew fun e w9 => ∃ (x36 : Option Addr) (x36_n x36_c : Nat), e = .returned (.slice x36 x36_n x36_c) ∧ 
  Kept w9 f ∧ ∃ (x37 : Option Addr) (x37_n x37_c : Nat), ∃ w10, BuiltinOk prog .append #[23, 23] 23 [false, false] [.slice x35 x35_n x35_c, .slice x36 x36_n x36_c] w9 (.slice x37 x37_n x37_c) w10 ∧ 
  CanStore w10 (ejvw.add 1) (.slice x37 x37_n x37_c) ∧ ∀ w11, w11 = w10.setCell (ejvw.add 1) (.slice x37 x37_n x37_c) → 
  Calls prog 132 ⟨[.pointer (some ejvw)]⟩ w11 fun e w12 => e = .returned (.tuple ⟨[]⟩) ∧ 
  R .nilIface w12
def an187 : Ann :=
  .seq (.reg (.text []))
  (.seq (.seq (.reg (.text [.p .n, .p (.sh [.nil])]))
  (.seq (.reg (.text []))
  (.no .leaf)))
  (.seq (.reg (.text [.p .n, .p (.sh [.str])]))
  (.seq (.reg (.text []))
  (.seq (.reg (.text [.p (.sh [.int .i64, .nil])]))
  (.seq (.reg (.text [.p .n, .p .n, .p .n, .p .n, .p (.sh [.bool]), .p (.sh [])]))
  (.seq (.reg (.text [.p (.sh [.int .i64, .nil])]))
  (.seq (.reg (.text [.p .n, .p .n, .p .n, .p .n, .p (.sh [.bool]), .p (.sh [])]))
  (.seq (.reg (.text [.p (.sh [.int .i64, .nil])]))
  (.seq (.reg (.held [6, 9] (.take 0 (.p .n) (.take 1 (.p .n) (.take 2 (.p .n) (.take 3 (.p .n) (.take 4 (.p (.sh [.slice])) (.run 5 (.p (.sh [.slice])) (.run 6 (.p (.sh [.slice])) (.take 7 (.p .n) (.take 8 (.p .n) (.run 9 (.p .n) .done .done))) .done) .done))))))))
  (.seq (.reg (.text [.p .n, .p (.sh [])]))
  (.seq (.reg (.text []))
  .leaf)))))))))))
theorem vcE187 (ejvw : Addr) (pattern : List UInt8) (options : List UInt8) (w : World) (R : Value → World → Prop) : vcFn prog f187 an187 [.pointer (some ejvw), .string (mkS pattern), .string (mkS options)] w R = VC187 ejvw pattern options w R := by kernel_rfl
theorem c187 (ejvw : Addr) (pattern : List UInt8) (options : List UInt8) (w : World) (R : Value → World → Prop) (hvc : VC187 ejvw pattern options w R) : Calls prog 187 ⟨[.pointer (some ejvw), .string (mkS pattern), .string (mkS options)]⟩ w fun e w' => ∃ v, e = .returned v ∧ R v w' :=
  vc_calls mixed (fn := f187) (ann := an187) (by kernel_rfl) ((vcE187 ejvw pattern options w R).symm ▸ hvc)

/- F188: bson.extJSONValueWriter).WriteDBPointer -/
def VC188 (ejvw : Addr) (ns : List UInt8) (oid0 : Int) (oid1 : Int) (oid2 : Int) (oid3 : Int) (oid4 : Int) (oid5 : Int) (oid6 : Int) (oid7 : Int) (oid8 : Int) (oid9 : Int) (oid10 : Int) (oid11 : Int) (w : World) (R : Value → World → Prop) : Prop :=
  ∀ w1, w1 = w.alloc (.cells ⟨[.int .u8 oid0, .int .u8 oid1, .int .u8 oid2, .int .u8 oid3, .int .u8 oid4, .int .u8 oid5, .int .u8 oid6, .int .u8 oid7, .int .u8 oid8, .int .u8 oid9, .int .u8 oid10, .int .u8 oid11]⟩ 307) → 
  Calls prog 68 ⟨[.pointer (some ejvw), .int .i64 0, .string (mkS [87, 114, 105, 116, 101, 68, 66, 80, 111, 105, 110, 116, 101, 114]), .slice none 0 0]⟩ w1 fun e w2 => e = .returned .nilIface ∧ 
  ∀ w3, w3 = w2.alloc (.cells ⟨[.slice none 0 0, .int .i64 0, .int .i8 0]⟩ 69) → 
  Calls prog 141 ⟨[.pointer (some (⟨w2.heap.size, 0, none⟩)), .string (mkS [123, 34, 36, 100, 98, 80, 111, 105, 110, 116, 101, 114, 34, 58, 123, 34, 36, 114, 101, 102, 34, 58, 34])]⟩ w3 fun e w4 => ∃ x14 : Int, e = .returned (.tuple ⟨[.int .i64 x14, .nilIface]⟩) ∧ 
  Calls prog 141 ⟨[.pointer (some (⟨w2.heap.size, 0, none⟩)), .string (mkS ns)]⟩ w4 fun e w5 => ∃ x16 : Int, e = .returned (.tuple ⟨[.int .i64 x16, .nilIface]⟩) ∧ 
  Calls prog 141 ⟨[.pointer (some (⟨w2.heap.size, 0, none⟩)), .string (mkS [34, 44, 34, 36, 105, 100, 34, 58, 123, 34, 36, 111, 105, 100, 34, 58, 34])]⟩ w5 fun e w6 => ∃ x17 : Int, e = .returned (.tuple ⟨[.int .i64 x17, .nilIface]⟩) ∧ 
  ∃ x18 : Int, ∃ x18_1 : Int, ∃ x18_2 : Int, ∃ x18_3 : Int, ∃ x18_4 : Int, ∃ x18_5 : Int, ∃ x18_6 : Int, ∃ x18_7 : Int, ∃ x18_8 : Int, ∃ x18_9 : Int, ∃ x18_10 : Int, ∃ x18_11 : Int, LoadsRow prog 307 w6 ⟨w.heap.size, 0, none⟩ [.int .u8 x18, .int .u8 x18_1, .int .u8 x18_2, .int .u8 x18_3, .int .u8 x18_4, .int .u8 x18_5, .int .u8 x18_6, .int .u8 x18_7, .int .u8 x18_8, .int .u8 x18_9, .int .u8 x18_10, .int .u8 x18_11] ∧ 
  Calls prog 235 ⟨[.agg ⟨[.int .u8 x18, .int .u8 x18_1, .int .u8 x18_2, .int .u8 x18_3, .int .u8 x18_4, .int .u8 x18_5, .int .u8 x18_6, .int .u8 x18_7, .int .u8 x18_8, .int .u8 x18_9, .int .u8 x18_10, .int .u8 x18_11]⟩]⟩ w6 fun e w7 => ∃ x19 : List UInt8, e = .returned (.string (mkS x19)) ∧ 
  Calls prog 141 ⟨[.pointer (some (⟨w2.heap.size, 0, none⟩)), .string (mkS x19)]⟩ w7 fun e w8 => ∃ x20 : Int, e = .returned (.tuple ⟨[.int .i64 x20, .nilIface]⟩) ∧ 
  Calls prog 141 ⟨[.pointer (some (⟨w2.heap.size, 0, none⟩)), .string (mkS [34, 125, 125, 125, 44])]⟩ w8 fun e w9 => ∃ x21 : Int, e = .returned (.tuple ⟨[.int .i64 x21, .nilIface]⟩) ∧ 
  ∃ f : List (Addr × Value), Kept w9 f ∧
  ∃ (x26 : Option Addr) (x26_n x26_c : Nat), ((ejvw.add 1), .slice x26 x26_n x26_c) ∈ f ∧ 
  Calls prog 177 ⟨[.pointer (some (⟨w2.heap.size, 0, none⟩))]⟩ w9.drew fun e w10 => ∃ (x27 : Option Addr) (x27_n x27_c : Nat), e = .returned (.slice x27 x27_n x27_c) ∧ 
  Kept w10 f ∧ ∃ (x28 : Option Addr) (x28_n x28_c : Nat), ∃ w11, BuiltinOk prog .append #[23, 23] 23 [false, false] [.slice x26 x26_n x26_c, .slice x27 x27_n x27_c] w10 (.slice x28 x28_n x28_c) w11 ∧ 
  CanStore w11 (ejvw.add 1) (.slice x28 x28_n x28_c) ∧ ∀ w12, w12 = w11.setCell (ejvw.add 1) (.slice x28 x28_n x28_c) → 
  Calls prog 132 ⟨[.pointer (some ejvw)]⟩ w12 fun e w13 => e = .returned (.tuple ⟨[]⟩) ∧ 
  R .nilIface w13
def an188 : Ann :=
  .seq (.reg (.text []))
  (.seq (.seq (.reg (.text [.p .n, .p (.sh [.nil])]))
  (.seq (.reg (.text []))
  (.no .leaf)))
  (.seq (.reg (.text []))
  (.seq (.reg (.text [.p (.sh [.int .i64, .nil])]))
  (.seq (.reg (.text [.p .n, .p (.sh [.int .i64, .nil])]))
  (.seq (.reg (.text [.p (.sh [.int .i64, .nil])]))
  (.seq (.reg (.text [.p (.sh [.int .u8, .int .u8, .int .u8, .int .u8, .int .u8, .int .u8, .int .u8, .int .u8, .int .u8, .int .u8, .int .u8, .int .u8]), .p (.sh [.str]), .p (.sh [.int .i64, .nil])]))
  (.seq (.reg (.text [.p (.sh [.int .i64, .nil])]))
  (.seq (.reg (.held [6, 9] (.take 0 (.p .n) (.take 1 (.p .n) (.take 2 (.p .n) (.take 3 (.p .n) (.take 4 (.p (.sh [.slice])) (.run 5 (.p (.sh [.slice])) (.run 6 (.p (.sh [.slice])) (.take 7 (.p .n) (.take 8 (.p .n) (.run 9 (.p .n) .done .done))) .done) .done))))))))
  (.seq (.reg (.text [.p .n, .p (.sh [])]))
  (.seq (.reg (.text []))
  .leaf))))))))))
theorem vcE188 (ejvw : Addr) (ns : List UInt8) (oid0 : Int) (oid1 : Int) (oid2 : Int) (oid3 : Int) (oid4 : Int) (oid5 : Int) (oid6 : Int) (oid7 : Int) (oid8 : Int) (oid9 : Int) (oid10 : Int) (oid11 : Int) (w : World) (R : Value → World → Prop) : vcFn prog f188 an188 [.pointer (some ejvw), .string (mkS ns), .agg ⟨[.int .u8 oid0, .int .u8 oid1, .int .u8 oid2, .int .u8 oid3, .int .u8 oid4, .int .u8 oid5, .int .u8 oid6, .int .u8 oid7, .int .u8 oid8, .int .u8 oid9, .int .u8 oid10, .int .u8 oid11]⟩] w R = VC188 ejvw ns oid0 oid1 oid2 oid3 oid4 oid5 oid6 oid7 oid8 oid9 oid10 oid11 w R := by kernel_rfl
theorem c188 (ejvw : Addr) (ns : List UInt8) (oid0 : Int) (oid1 : Int) (oid2 : Int) (oid3 : Int) (oid4 : Int) (oid5 : Int) (oid6 : Int) (oid7 : Int) (oid8 : Int) (oid9 : Int) (oid10 : Int) (oid11 : Int) (w : World) (R : Value → World → Prop) (hvc : VC188 ejvw ns oid0 oid1 oid2 oid3 oid4 oid5 oid6 oid7 oid8 oid9 oid10 oid11 w R) : Calls prog 188 ⟨[.pointer (some ejvw), .string (mkS ns), .agg ⟨[.int .u8 oid0, .int .u8 oid1, .int .u8 oid2, .int .u8 oid3, .int .u8 oid4, .int .u8 oid5, .int .u8 oid6, .int .u8 oid7, .int .u8 oid8, .int .u8 oid9, .int .u8 oid10, .int .u8 oid11]⟩]⟩ w fun e w' => ∃ v, e = .returned v ∧ R v w' :=
  vc_calls mixed (fn := f188) (ann := an188) (by kernel_rfl) ((vcE188 ejvw ns oid0 oid1 oid2 oid3 oid4 oid5 oid6 oid7 oid8 oid9 oid10 oid11 w R).symm ▸ hvc)

/- F189: bson.extJSONValueWriter).WriteJavascript -/
def VC189 (ejvw : Addr) (code : List UInt8) (w : World) (R : Value → World → Prop) : Prop :=
  Calls prog 68 ⟨[.pointer (some ejvw), .int .i64 0, .string (mkS [87, 114, 105, 116, 101, 74, 97, 118, 97, 115, 99, 114, 105, 112, 116]), .slice none 0 0]⟩ w fun e w1 => e = .returned .nilIface ∧ 
  ∀ w2, w2 = w1.alloc (.cells ⟨[.slice none 0 0, .int .i64 0, .int .i8 0]⟩ 69) → 
  ∃ x16 : Bool, w2.cell? (ejvw.add 5) = some (.bool x16) ∧ 
  Calls prog 125 ⟨[.string (mkS code), .pointer (some (⟨w1.heap.size, 0, none⟩)), .bool x16]⟩ w2 fun e w3 => e = .returned (.tuple ⟨[]⟩) ∧ 
  Calls prog 42 ⟨[.pointer (some (⟨w1.heap.size, 0, none⟩))]⟩ w3 fun e w4 => ∃ x19 : List UInt8, e = .returned (.string (mkS x19)) ∧ 
  Calls prog 232 ⟨[.pointer (some ejvw), .string (mkS [99, 111, 100, 101]), .string (mkS x19), .bool false]⟩ w4 fun e w5 => e = .returned (.tuple ⟨[]⟩) ∧ 
  ∃ (x25 : Option Addr) (x25_n x25_c : Nat), w5.cell? (ejvw.add 1) = some (.slice x25 x25_n x25_c) ∧ 
  ∀ w6, w6 = w5.alloc (.cells ⟨[.int .u8 44]⟩ 5) → 
  ∃ (x27 : Option Addr) (x27_n x27_c : Nat), ∃ w7, BuiltinOk prog .append #[23, 23] 23 [false, false] [.slice x25 x25_n x25_c, .slice (some (⟨w5.heap.size, 0, none⟩)) 1 1] w6 (.slice x27 x27_n x27_c) w7 ∧ 
  CanStore w7 (ejvw.add 1) (.slice x27 x27_n x27_c) ∧ ∀ w8, w8 = w7.setCell (ejvw.add 1) (.slice x27 x27_n x27_c) → 
  Calls prog 132 ⟨[.pointer (some ejvw)]⟩ w8 fun e w9 => e = .returned (.tuple ⟨[]⟩) ∧ 
  R .nilIface w9
def an189 : Ann :=
  .seq (.reg (.text []))
  (.seq (.seq (.reg (.text [.p .n, .p (.sh [.nil])]))
  (.seq (.reg (.text []))
  (.no .leaf)))
  (.seq (.reg (.text []))
  (.seq (.reg (.text [.p .n, .p .n, .p .n, .p .n, .p (.sh [.bool]), .p (.sh [])]))
  (.seq (.reg (.text [.p .n, .p (.sh [.str]), .p (.sh [])]))
  (.seq (.reg (.text [.p .n, .p .n, .p .n, .p .n, .p (.sh [.slice]), .p .n, .p (.sh [.slice])]))
  (.seq (.reg (.text [.p .n, .p (.sh [])]))
  (.seq (.reg (.text []))
  .leaf)))))))
theorem vcE189 (ejvw : Addr) (code : List UInt8) (w : World) (R : Value → World → Prop) : vcFn prog f189 an189 [.pointer (some ejvw), .string (mkS code)] w R = VC189 ejvw code w R := by kernel_rfl
theorem c189 (ejvw : Addr) (code : List UInt8) (w : World) (R : Value → World → Prop) (hvc : VC189 ejvw code w R) : Calls prog 189 ⟨[.pointer (some ejvw), .string (mkS code)]⟩ w fun e w' => ∃ v, e = .returned v ∧ R v w' :=
  vc_calls mixed (fn := f189) (ann := an189) (by kernel_rfl) ((vcE189 ejvw code w R).symm ▸ hvc)

/- F190: bson.extJSONValueWriter).WriteSymbol -/
def VC190 (ejvw : Addr) (symbol : List UInt8) (w : World) (R : Value → World → Prop) : Prop :=
  Calls prog 68 ⟨[.pointer (some ejvw), .int .i64 0, .string (mkS [87, 114, 105, 116, 101, 83, 121, 109, 98, 111, 108]), .slice none 0 0]⟩ w fun e w1 => e = .returned .nilIface ∧ 
  ∀ w2, w2 = w1.alloc (.cells ⟨[.slice none 0 0, .int .i64 0, .int .i8 0]⟩ 69) → 
  ∃ x16 : Bool, w2.cell? (ejvw.add 5) = some (.bool x16) ∧ 
  Calls prog 125 ⟨[.string (mkS symbol), .pointer (some (⟨w1.heap.size, 0, none⟩)), .bool x16]⟩ w2 fun e w3 => e = .returned (.tuple ⟨[]⟩) ∧ 
  Calls prog 42 ⟨[.pointer (some (⟨w1.heap.size, 0, none⟩))]⟩ w3 fun e w4 => ∃ x19 : List UInt8, e = .returned (.string (mkS x19)) ∧ 
  Calls prog 232 ⟨[.pointer (some ejvw), .string (mkS [115, 121, 109, 98, 111, 108]), .string (mkS x19), .bool false]⟩ w4 fun e w5 => e = .returned (.tuple ⟨[]⟩) ∧ 
  ∃ (x25 : Option Addr) (x25_n x25_c : Nat), w5.cell? (ejvw.add 1) = some (.slice x25 x25_n x25_c) ∧ 
  ∀ w6, w6 = w5.alloc (.cells ⟨[.int .u8 44]⟩ 5) → 
  ∃ (x27 : Option Addr) (x27_n x27_c : Nat), ∃ w7, BuiltinOk prog .append #[23, 23] 23 [false, false] [.slice x25 x25_n x25_c, .slice (some (⟨w5.heap.size, 0, none⟩)) 1 1] w6 (.slice x27 x27_n x27_c) w7 ∧ 
  CanStore w7 (ejvw.add 1) (.slice x27 x27_n x27_c) ∧ ∀ w8, w8 = w7.setCell (ejvw.add 1) (.slice x27 x27_n x27_c) → 
  Calls prog 132 ⟨[.pointer (some ejvw)]⟩ w8 fun e w9 => e = .returned (.tuple ⟨[]⟩) ∧ 
  R .nilIface w9
def an190 : Ann :=
  .seq (.reg (.text []))
  (.seq (.seq (.reg (.text [.p .n, .p (.sh [.nil])]))
  (.seq (.reg (.text []))
  (.no .leaf)))
  (.seq (.reg (.text []))
  (.seq (.reg (.text [.p .n, .p .n, .p .n, .p .n, .p (.sh [.bool]), .p (.sh [])]))
  (.seq (.reg (.text [.p .n, .p (.sh [.str]), .p (.sh [])]))
  (.seq (.reg (.text [.p .n, .p .n, .p .n, .p .n, .p (.sh [.slice]), .p .n, .p (.sh [.slice])]))
  (.seq (.reg (.text [.p .n, .p (.sh [])]))
  (.seq (.reg (.text []))
  .leaf)))))))
theorem vcE190 (ejvw : Addr) (symbol : List UInt8) (w : World) (R : Value → World → Prop) : vcFn prog f190 an190 [.pointer (some ejvw), .string (mkS symbol)] w R = VC190 ejvw symbol w R := by kernel_rfl
theorem c190 (ejvw : Addr) (symbol : List UInt8) (w : World) (R : Value → World → Prop) (hvc : VC190 ejvw symbol w R) : Calls prog 190 ⟨[.pointer (some ejvw), .string (mkS symbol)]⟩ w fun e w' => ∃ v, e = .returned v ∧ R v w' :=
  vc_calls mixed (fn := f190) (ann := an190) (by kernel_rfl) ((vcE190 ejvw symbol w R).symm ▸ hvc)

/- F191: bson.extJSONValueWriter).WriteInt32 -/
def VC191 (ejvw : Addr) (i : Int) (w : World) (R : Value → World → Prop) : Prop :=
  Calls prog 68 ⟨[.pointer (some ejvw), .int .i64 0, .string (mkS [87, 114, 105, 116, 101, 73, 110, 116, 51, 50]), .slice none 0 0]⟩ w fun e w1 => e = .returned .nilIface ∧ 
  ∃ x13 : Int, IntKind.i64.wrap i = x13 ∧ 
  Calls prog 34 ⟨[.int .i64 x13, .int .i64 10]⟩ w1 fun e w2 => ∃ x14 : List UInt8, e = .returned (.string (mkS x14)) ∧ 
  ∀ Kx : World → Prop, (∀ w3,
  (∃ (x36 : Option Addr) (x36_n x36_c : Nat), w3.cell? (ejvw.add 1) = some (.slice x36 x36_n x36_c) ∧ 
    ∀ w4, w4 = w3.alloc (.cells ⟨[.int .u8 44]⟩ 5) → 
    ∃ (x38 : Option Addr) (x38_n x38_c : Nat), ∃ w5, BuiltinOk prog .append #[23, 23] 23 [false, false] [.slice x36 x36_n x36_c, .slice (some (⟨w3.heap.size, 0, none⟩)) 1 1] w4 (.slice x38 x38_n x38_c) w5 ∧ 
    CanStore w5 (ejvw.add 1) (.slice x38 x38_n x38_c) ∧ ∀ w6, w6 = w5.setCell (ejvw.add 1) (.slice x38 x38_n x38_c) → 
    Calls prog 132 ⟨[.pointer (some ejvw)]⟩ w6 fun e w7 => e = .returned (.tuple ⟨[]⟩) ∧ 
    R .nilIface w7) → Kx w3) →
  ∃ x18 : Bool, w2.cell? (ejvw.add 4) = some (.bool x18) ∧ 
  (x18 = true →
  Calls prog 232 ⟨[.pointer (some ejvw), .string (mkS [110, 117, 109, 98, 101, 114, 73, 110, 116]), .string (mkS x14), .bool true]⟩ w2 fun e w8 => e = .returned (.tuple ⟨[]⟩) ∧ 
    Kx w8) ∧ (x18 = false →
  ∃ (x26 : Option Addr) (x26_n x26_c : Nat), w2.cell? (ejvw.add 1) = some (.slice x26 x26_n x26_c) ∧ 
    ∃ (x28 : Option Addr) (x28_n x28_c : Nat), ∃ w9, (convert 9 23 (.string (mkS x14))).run prog w2 = .ok (.slice x28 x28_n x28_c) w9 ∧ 
    ∃ (x29 : Option Addr) (x29_n x29_c : Nat), ∃ w10, BuiltinOk prog .append #[23, 23] 23 [false, false] [.slice x26 x26_n x26_c, .slice x28 x28_n x28_c] w9 (.slice x29 x29_n x29_c) w10 ∧ 
    CanStore w10 (ejvw.add 1) (.slice x29 x29_n x29_c) ∧ ∀ w11, w11 = w10.setCell (ejvw.add 1) (.slice x29 x29_n x29_c) → 
    Kx w11)
def an191 : Ann :=
  .seq (.reg (.text []))
  (.seq (.seq (.reg (.text [.p .n, .p (.sh [.nil])]))
  (.seq (.reg (.text []))
  (.no .leaf)))
  (.seq (.reg (.text [.p .n, .p .n, .p (.sh [.str])]))
  (.cut [] [0] (.seq (.reg (.text [.p .n, .p .n, .p .n, .p (.sh [.bool])]))
  (.cond 1 2 (.reg (.text [.p .n, .p .n, .p (.sh [])])) (.reg (.text [.p .n, .p .n, .p .n, .p .n, .p (.sh [.slice]), .p .n, .p (.sh [.slice]), .p (.sh [.slice])]))))
  (.seq (.reg (.text [.p .n, .p .n, .p .n, .p .n, .p (.sh [.slice]), .p .n, .p (.sh [.slice])]))
  (.seq (.reg (.text [.p .n, .p (.sh [])]))
  (.seq (.reg (.text []))
  .leaf))))))
theorem vcE191 (ejvw : Addr) (i : Int) (w : World) (R : Value → World → Prop) : vcFn prog f191 an191 [.pointer (some ejvw), .int .i32 i] w R = VC191 ejvw i w R := by kernel_rfl
theorem c191 (ejvw : Addr) (i : Int) (w : World) (R : Value → World → Prop) (hvc : VC191 ejvw i w R) : Calls prog 191 ⟨[.pointer (some ejvw), .int .i32 i]⟩ w fun e w' => ∃ v, e = .returned v ∧ R v w' :=
  vc_calls mixed (fn := f191) (ann := an191) (by kernel_rfl) ((vcE191 ejvw i w R).symm ▸ hvc)

/- F192: bson.extJSONValueWriter).WriteTimestamp -/
def VC192 (ejvw : Addr) (t : Int) (i : Int) (w : World) (R : Value → World → Prop) : Prop :=
  Calls prog 68 ⟨[.pointer (some ejvw), .int .i64 0, .string (mkS [87, 114, 105, 116, 101, 84, 105, 109, 101, 115, 116, 97, 109, 112]), .slice none 0 0]⟩ w fun e w1 => e = .returned .nilIface ∧ 
  ∀ w2, w2 = w1.alloc (.cells ⟨[.slice none 0 0, .int .i64 0, .int .i8 0]⟩ 69) → 
  Calls prog 141 ⟨[.pointer (some (⟨w1.heap.size, 0, none⟩)), .string (mkS [123, 34, 36, 116, 105, 109, 101, 115, 116, 97, 109, 112, 34, 58, 123, 34, 116, 34, 58])]⟩ w2 fun e w3 => ∃ x14 : Int, e = .returned (.tuple ⟨[.int .i64 x14, .nilIface]⟩) ∧ 
  ∃ x16 : Int, IntKind.u64.wrap t = x16 ∧ 
  Calls prog 36 ⟨[.int .u64 x16, .int .i64 10]⟩ w3 fun e w4 => ∃ x17 : List UInt8, e = .returned (.string (mkS x17)) ∧ 
  Calls prog 141 ⟨[.pointer (some (⟨w1.heap.size, 0, none⟩)), .string (mkS x17)]⟩ w4 fun e w5 => ∃ x18 : Int, e = .returned (.tuple ⟨[.int .i64 x18, .nilIface]⟩) ∧ 
  Calls prog 141 ⟨[.pointer (some (⟨w1.heap.size, 0, none⟩)), .string (mkS [44, 34, 105, 34, 58])]⟩ w5 fun e w6 => ∃ x19 : Int, e = .returned (.tuple ⟨[.int .i64 x19, .nilIface]⟩) ∧ 
  ∃ x21 : Int, IntKind.u64.wrap i = x21 ∧ 
  Calls prog 36 ⟨[.int .u64 x21, .int .i64 10]⟩ w6 fun e w7 => ∃ x22 : List UInt8, e = .returned (.string (mkS x22)) ∧ 
  Calls prog 141 ⟨[.pointer (some (⟨w1.heap.size, 0, none⟩)), .string (mkS x22)]⟩ w7 fun e w8 => ∃ x23 : Int, e = .returned (.tuple ⟨[.int .i64 x23, .nilIface]⟩) ∧ 
  Calls prog 141 ⟨[.pointer (some (⟨w1.heap.size, 0, none⟩)), .string (mkS [125, 125, 44])]⟩ w8 fun e w9 => ∃ x24 : Int, e = .returned (.tuple ⟨[.int .i64 x24, .nilIface]⟩) ∧ 
  ∃ f : List (Addr × Value), Kept w9 f ∧
  ∃ (x29 : Option Addr) (x29_n x29_c : Nat), ((ejvw.add 1), .slice x29 x29_n x29_c) ∈ f ∧ 
  Calls prog 177 ⟨[.pointer (some (⟨w1.heap.size, 0, none⟩))]⟩ w9.drew fun e w10 => ∃ (x30 : Option Addr) (x30_n x30_c : Nat), e = .returned (.slice x30 x30_n x30_c) ∧ 
  Kept w10 f ∧ ∃ (x31 : Option Addr) (x31_n x31_c : Nat), ∃ w11, BuiltinOk prog .append #[23, 23] 23 [false, false] [.slice x29 x29_n x29_c, .slice x30 x30_n x30_c] w10 (.slice x31 x31_n x31_c) w11 ∧ 
  CanStore w11 (ejvw.add 1) (.slice x31 x31_n x31_c) ∧ ∀ w12, w12 = w11.setCell (ejvw.add 1) (.slice x31 x31_n x31_c) → 
  Calls prog 132 ⟨[.pointer (some ejvw)]⟩ w12 fun e w13 => e = .returned (.tuple ⟨[]⟩) ∧ 
  R .nilIface w13
def an192 : Ann :=
  .seq (.reg (.text []))
  (.seq (.seq (.reg (.text [.p .n, .p (.sh [.nil])]))
  (.seq (.reg (.text []))
  (.no .leaf)))
  (.seq (.reg (.text []))
  (.seq (.reg (.text [.p (.sh [.int .i64, .nil])]))
  (.seq (.reg (.text [.p .n, .p .n, .p (.sh [.str]), .p (.sh [.int .i64, .nil])]))
  (.seq (.reg (.text [.p (.sh [.int .i64, .nil])]))
  (.seq (.reg (.text [.p .n, .p .n, .p (.sh [.str]), .p (.sh [.int .i64, .nil])]))
  (.seq (.reg (.text [.p (.sh [.int .i64, .nil])]))
  (.seq (.reg (.held [6, 9] (.take 0 (.p .n) (.take 1 (.p .n) (.take 2 (.p .n) (.take 3 (.p .n) (.take 4 (.p (.sh [.slice])) (.run 5 (.p (.sh [.slice])) (.run 6 (.p (.sh [.slice])) (.take 7 (.p .n) (.take 8 (.p .n) (.run 9 (.p .n) .done .done))) .done) .done))))))))
  (.seq (.reg (.text [.p .n, .p (.sh [])]))
  (.seq (.reg (.text []))
  .leaf))))))))))
theorem vcE192 (ejvw : Addr) (t : Int) (i : Int) (w : World) (R : Value → World → Prop) : vcFn prog f192 an192 [.pointer (some ejvw), .int .u32 t, .int .u32 i] w R = VC192 ejvw t i w R := by kernel_rfl
theorem c192 (ejvw : Addr) (t : Int) (i : Int) (w : World) (R : Value → World → Prop) (hvc : VC192 ejvw t i w R) : Calls prog 192 ⟨[.pointer (some ejvw), .int .u32 t, .int .u32 i]⟩ w fun e w' => ∃ v, e = .returned v ∧ R v w' :=
  vc_calls mixed (fn := f192) (ann := an192) (by kernel_rfl) ((vcE192 ejvw t i w R).symm ▸ hvc)

/- F193: bson.extJSONValueWriter).WriteInt64 -/
def VC193 (ejvw : Addr) (i : Int) (w : World) (R : Value → World → Prop) : Prop :=
  Calls prog 68 ⟨[.pointer (some ejvw), .int .i64 0, .string (mkS [87, 114, 105, 116, 101, 73, 110, 116, 54, 52]), .slice none 0 0]⟩ w fun e w1 => e = .returned .nilIface ∧ 
  Calls prog 34 ⟨[.int .i64 i, .int .i64 10]⟩ w1 fun e w2 => ∃ x13 : List UInt8, e = .returned (.string (mkS x13)) ∧ 
  ∀ Kx : World → Prop, (∀ w3,
  (∃ (x35 : Option Addr) (x35_n x35_c : Nat), w3.cell? (ejvw.add 1) = some (.slice x35 x35_n x35_c) ∧ 
    ∀ w4, w4 = w3.alloc (.cells ⟨[.int .u8 44]⟩ 5) → 
    ∃ (x37 : Option Addr) (x37_n x37_c : Nat), ∃ w5, BuiltinOk prog .append #[23, 23] 23 [false, false] [.slice x35 x35_n x35_c, .slice (some (⟨w3.heap.size, 0, none⟩)) 1 1] w4 (.slice x37 x37_n x37_c) w5 ∧ 
    CanStore w5 (ejvw.add 1) (.slice x37 x37_n x37_c) ∧ ∀ w6, w6 = w5.setCell (ejvw.add 1) (.slice x37 x37_n x37_c) → 
    Calls prog 132 ⟨[.pointer (some ejvw)]⟩ w6 fun e w7 => e = .returned (.tuple ⟨[]⟩) ∧ 
    R .nilIface w7) → Kx w3) →
  ∃ x17 : Bool, w2.cell? (ejvw.add 4) = some (.bool x17) ∧ 
  (x17 = true →
  Calls prog 232 ⟨[.pointer (some ejvw), .string (mkS [110, 117, 109, 98, 101, 114, 76, 111, 110, 103]), .string (mkS x13), .bool true]⟩ w2 fun e w8 => e = .returned (.tuple ⟨[]⟩) ∧ 
    Kx w8) ∧ (x17 = false →
  ∃ (x25 : Option Addr) (x25_n x25_c : Nat), w2.cell? (ejvw.add 1) = some (.slice x25 x25_n x25_c) ∧ 
    ∃ (x27 : Option Addr) (x27_n x27_c : Nat), ∃ w9, (convert 9 23 (.string (mkS x13))).run prog w2 = .ok (.slice x27 x27_n x27_c) w9 ∧ 
    ∃ (x28 : Option Addr) (x28_n x28_c : Nat), ∃ w10, BuiltinOk prog .append #[23, 23] 23 [false, false] [.slice x25 x25_n x25_c, .slice x27 x27_n x27_c] w9 (.slice x28 x28_n x28_c) w10 ∧ 
    CanStore w10 (ejvw.add 1) (.slice x28 x28_n x28_c) ∧ ∀ w11, w11 = w10.setCell (ejvw.add 1) (.slice x28 x28_n x28_c) → 
    Kx w11)
def an193 : Ann :=
  .seq (.reg (.text []))
  (.seq (.seq (.reg (.text [.p .n, .p (.sh [.nil])]))
  (.seq (.reg (.text []))
  (.no .leaf)))
  (.seq (.reg (.text [.p .n, .p (.sh [.str])]))
  (.cut [] [0] (.seq (.reg (.text [.p .n, .p .n, .p .n, .p (.sh [.bool])]))
  (.cond 1 2 (.reg (.text [.p .n, .p .n, .p (.sh [])])) (.reg (.text [.p .n, .p .n, .p .n, .p .n, .p (.sh [.slice]), .p .n, .p (.sh [.slice]), .p (.sh [.slice])]))))
  (.seq (.reg (.text [.p .n, .p .n, .p .n, .p .n, .p (.sh [.slice]), .p .n, .p (.sh [.slice])]))
  (.seq (.reg (.text [.p .n, .p (.sh [])]))
  (.seq (.reg (.text []))
  .leaf))))))
theorem vcE193 (ejvw : Addr) (i : Int) (w : World) (R : Value → World → Prop) : vcFn prog f193 an193 [.pointer (some ejvw), .int .i64 i] w R = VC193 ejvw i w R := by kernel_rfl
theorem c193 (ejvw : Addr) (i : Int) (w : World) (R : Value → World → Prop) (hvc : VC193 ejvw i w R) : Calls prog 193 ⟨[.pointer (some ejvw), .int .i64 i]⟩ w fun e w' => ∃ v, e = .returned v ∧ R v w' :=
  vc_calls mixed (fn := f193) (ann := an193) (by kernel_rfl) ((vcE193 ejvw i w R).symm ▸ hvc)

/- F194: bson.extJSONValueWriter).WriteDecimal128 -/
def VC194 (ejvw : Addr) (dh : Int) (dl : Int) (w : World) (R : Value → World → Prop) : Prop :=
  ∀ w1, w1 = w.alloc (.cells ⟨[.int .u64 dh, .int .u64 dl]⟩ 263) → 
  Calls prog 68 ⟨[.pointer (some ejvw), .int .i64 0, .string (mkS [87, 114, 105, 116, 101, 68, 101, 99, 105, 109, 97, 108, 49, 50, 56]), .slice none 0 0]⟩ w1 fun e w2 => e = .returned .nilIface ∧ 
  ∃ x12 : Int, ∃ x12_1 : Int, LoadsRow prog 263 w2 ⟨w.heap.size, 0, none⟩ [.int .u64 x12, .int .u64 x12_1] ∧ 
  Calls prog 237 ⟨[.agg ⟨[.int .u64 x12, .int .u64 x12_1]⟩]⟩ w2 fun e w3 => ∃ x13 : List UInt8, e = .returned (.string (mkS x13)) ∧ 
  Calls prog 232 ⟨[.pointer (some ejvw), .string (mkS [110, 117, 109, 98, 101, 114, 68, 101, 99, 105, 109, 97, 108]), .string (mkS x13), .bool true]⟩ w3 fun e w4 => e = .returned (.tuple ⟨[]⟩) ∧ 
  ∃ (x19 : Option Addr) (x19_n x19_c : Nat), w4.cell? (ejvw.add 1) = some (.slice x19 x19_n x19_c) ∧ 
  ∀ w5, w5 = w4.alloc (.cells ⟨[.int .u8 44]⟩ 5) → 
  ∃ (x21 : Option Addr) (x21_n x21_c : Nat), ∃ w6, BuiltinOk prog .append #[23, 23] 23 [false, false] [.slice x19 x19_n x19_c, .slice (some (⟨w4.heap.size, 0, none⟩)) 1 1] w5 (.slice x21 x21_n x21_c) w6 ∧ 
  CanStore w6 (ejvw.add 1) (.slice x21 x21_n x21_c) ∧ ∀ w7, w7 = w6.setCell (ejvw.add 1) (.slice x21 x21_n x21_c) → 
  Calls prog 132 ⟨[.pointer (some ejvw)]⟩ w7 fun e w8 => e = .returned (.tuple ⟨[]⟩) ∧ 
  R .nilIface w8
def an194 : Ann :=
  .seq (.reg (.text []))
  (.seq (.seq (.reg (.text [.p .n, .p (.sh [.nil])]))
  (.seq (.reg (.text []))
  (.no .leaf)))
  (.seq (.reg (.text [.p .n, .p (.sh [.int .u64, .int .u64]), .p (.sh [.str]), .p (.sh [])]))
  (.seq (.reg (.text [.p .n, .p .n, .p .n, .p .n, .p (.sh [.slice]), .p .n, .p (.sh [.slice])]))
  (.seq (.reg (.text [.p .n, .p (.sh [])]))
  (.seq (.reg (.text []))
  .leaf)))))
theorem vcE194 (ejvw : Addr) (dh : Int) (dl : Int) (w : World) (R : Value → World → Prop) : vcFn prog f194 an194 [.pointer (some ejvw), .agg ⟨[.int .u64 dh, .int .u64 dl]⟩] w R = VC194 ejvw dh dl w R := by kernel_rfl
theorem c194 (ejvw : Addr) (dh : Int) (dl : Int) (w : World) (R : Value → World → Prop) (hvc : VC194 ejvw dh dl w R) : Calls prog 194 ⟨[.pointer (some ejvw), .agg ⟨[.int .u64 dh, .int .u64 dl]⟩]⟩ w fun e w' => ∃ v, e = .returned v ∧ R v w' :=
  vc_calls mixed (fn := f194) (ann := an194) (by kernel_rfl) ((vcE194 ejvw dh dl w R).symm ▸ hvc)

/- F195: bson.NewDecimal128 -/
def VC195 (h : Int) (lx : Int) (w : World) (R : Value → World → Prop) : Prop :=
  ∀ w1, w1 = w.alloc (.cells ⟨[.int .u64 0, .int .u64 0]⟩ 263) → 
  ∃ w2, (Instr.storeAt 263 (.pointer (some ⟨w.heap.size, 0, none⟩)) (.agg ⟨[.int .u64 h, .int .u64 lx]⟩)).run prog w1 = .ok () w2 ∧ 
  ∃ r : List Value, LoadsRow prog 263 w2 ⟨w.heap.size, 0, none⟩ r ∧ R (.agg ⟨r⟩) w2
def an195 : Ann :=
  .seq (.reg (.text []))
  (.seq (.reg (.text []))
  .leaf)
theorem vcE195 (h : Int) (lx : Int) (w : World) (R : Value → World → Prop) : vcFn prog f195 an195 [.int .u64 h, .int .u64 lx] w R = VC195 h lx w R := by kernel_rfl
theorem c195 (h : Int) (lx : Int) (w : World) (R : Value → World → Prop) (hvc : VC195 h lx w R) : Calls prog 195 ⟨[.int .u64 h, .int .u64 lx]⟩ w fun e w' => ∃ v, e = .returned v ∧ R v w' :=
  vc_calls mixed (fn := f195) (ann := an195) (by kernel_rfl) ((vcE195 h lx w R).symm ▸ hvc)

/- F196: bson.extJSONValueWriter).WriteMinKey -/
def VC196 (ejvw : Addr) (w : World) (R : Value → World → Prop) : Prop :=
  Calls prog 68 ⟨[.pointer (some ejvw), .int .i64 0, .string (mkS [87, 114, 105, 116, 101, 77, 105, 110, 75, 101, 121]), .slice none 0 0]⟩ w fun e w1 => e = .returned .nilIface ∧ 
  Calls prog 232 ⟨[.pointer (some ejvw), .string (mkS [109, 105, 110, 75, 101, 121]), .string (mkS [49]), .bool false]⟩ w1 fun e w2 => e = .returned (.tuple ⟨[]⟩) ∧ 
  ∃ (x15 : Option Addr) (x15_n x15_c : Nat), w2.cell? (ejvw.add 1) = some (.slice x15 x15_n x15_c) ∧ 
  ∀ w3, w3 = w2.alloc (.cells ⟨[.int .u8 44]⟩ 5) → 
  ∃ (x17 : Option Addr) (x17_n x17_c : Nat), ∃ w4, BuiltinOk prog .append #[23, 23] 23 [false, false] [.slice x15 x15_n x15_c, .slice (some (⟨w2.heap.size, 0, none⟩)) 1 1] w3 (.slice x17 x17_n x17_c) w4 ∧ 
  CanStore w4 (ejvw.add 1) (.slice x17 x17_n x17_c) ∧ ∀ w5, w5 = w4.setCell (ejvw.add 1) (.slice x17 x17_n x17_c) → 
  Calls prog 132 ⟨[.pointer (some ejvw)]⟩ w5 fun e w6 => e = .returned (.tuple ⟨[]⟩) ∧ 
  R .nilIface w6
def an196 : Ann :=
  .seq (.reg (.text []))
  (.seq (.seq (.reg (.text [.p .n, .p (.sh [.nil])]))
  (.seq (.reg (.text []))
  (.no .leaf)))
  (.seq (.reg (.text [.p .n, .p (.sh [])]))
  (.seq (.reg (.text [.p .n, .p .n, .p .n, .p .n, .p (.sh [.slice]), .p .n, .p (.sh [.slice])]))
  (.seq (.reg (.text [.p .n, .p (.sh [])]))
  (.seq (.reg (.text []))
  .leaf)))))
theorem vcE196 (ejvw : Addr) (w : World) (R : Value → World → Prop) : vcFn prog f196 an196 [.pointer (some ejvw)] w R = VC196 ejvw w R := by kernel_rfl
theorem c196 (ejvw : Addr) (w : World) (R : Value → World → Prop) (hvc : VC196 ejvw w R) : Calls prog 196 ⟨[.pointer (some ejvw)]⟩ w fun e w' => ∃ v, e = .returned v ∧ R v w' :=
  vc_calls mixed (fn := f196) (ann := an196) (by kernel_rfl) ((vcE196 ejvw w R).symm ▸ hvc)

/- F197: bson.extJSONValueWriter).WriteMaxKey -/
def VC197 (ejvw : Addr) (w : World) (R : Value → World → Prop) : Prop :=
  Calls prog 68 ⟨[.pointer (some ejvw), .int .i64 0, .string (mkS [87, 114, 105, 116, 101, 77, 97, 120, 75, 101, 121]), .slice none 0 0]⟩ w fun e w1 => e = .returned .nilIface ∧ 
  Calls prog 232 ⟨[.pointer (some ejvw), .string (mkS [109, 97, 120, 75, 101, 121]), .string (mkS [49]), .bool false]⟩ w1 fun e w2 => e = .returned (.tuple ⟨[]⟩) ∧ 
  ∃ (x15 : Option Addr) (x15_n x15_c : Nat), w2.cell? (ejvw.add 1) = some (.slice x15 x15_n x15_c) ∧ 
  ∀ w3, w3 = w2.alloc (.cells ⟨[.int .u8 44]⟩ 5) → 
  ∃ (x17 : Option Addr) (x17_n x17_c : Nat), ∃ w4, BuiltinOk prog .append #[23, 23] 23 [false, false] [.slice x15 x15_n x15_c, .slice (some (⟨w2.heap.size, 0, none⟩)) 1 1] w3 (.slice x17 x17_n x17_c) w4 ∧ 
  CanStore w4 (ejvw.add 1) (.slice x17 x17_n x17_c) ∧ ∀ w5, w5 = w4.setCell (ejvw.add 1) (.slice x17 x17_n x17_c) → 
  Calls prog 132 ⟨[.pointer (some ejvw)]⟩ w5 fun e w6 => e = .returned (.tuple ⟨[]⟩) ∧ 
  R .nilIface w6
def an197 : Ann :=
  .seq (.reg (.text []))
  (.seq (.seq (.reg (.text [.p .n, .p (.sh [.nil])]))
  (.seq (.reg (.text []))
  (.no .leaf)))
  (.seq (.reg (.text [.p .n, .p (.sh [])]))
  (.seq (.reg (.text [.p .n, .p .n, .p .n, .p .n, .p (.sh [.slice]), .p .n, .p (.sh [.slice])]))
  (.seq (.reg (.text [.p .n, .p (.sh [])]))
  (.seq (.reg (.text []))
  .leaf)))))
theorem vcE197 (ejvw : Addr) (w : World) (R : Value → World → Prop) : vcFn prog f197 an197 [.pointer (some ejvw)] w R = VC197 ejvw w R := by kernel_rfl
theorem c197 (ejvw : Addr) (w : World) (R : Value → World → Prop) (hvc : VC197 ejvw w R) : Calls prog 197 ⟨[.pointer (some ejvw)]⟩ w fun e w' => ∃ v, e = .returned v ∧ R v w' :=
  vc_calls mixed (fn := f197) (ann := an197) (by kernel_rfl) ((vcE197 ejvw w R).symm ▸ hvc)

/- F94: strconv.FormatBool -/
def VC94 (b : Bool) (w : World) (R : Value → World → Prop) : Prop :=
  Calls prog 154 ⟨[.bool b]⟩ w fun e w1 => ∃ x4 : List UInt8, e = .returned (.string (mkS x4)) ∧ 
  R (.string (mkS x4)) w1
def an94 : Ann :=
  .seq (.reg (.text []))
  (.seq (.reg (.text [.p .n, .p (.sh [.str])]))
  .leaf)
theorem vcE94 (b : Bool) (w : World) (R : Value → World → Prop) : vcFn prog f94 an94 [.bool b] w R = VC94 b w R := by kernel_rfl
theorem c94 (b : Bool) (w : World) (R : Value → World → Prop) (hvc : VC94 b w R) : Calls prog 94 ⟨[.bool b]⟩ w fun e w' => ∃ v, e = .returned v ∧ R v w' :=
  vc_calls mixed (fn := f94) (ann := an94) (by kernel_rfl) ((vcE94 b w R).symm ▸ hvc)

/- F154: strconv.FormatBool -/
def VC154 (b : Bool) (w : World) (R : Value → World → Prop) : Prop :=
  (b = true →
  R (.string (mkS [116, 114, 117, 101])) w) ∧ (b = false →
  R (.string (mkS [102, 97, 108, 115, 101])) w)
def an154 : Ann :=
  .seq (.reg (.text []))
  (.seq (.seq (.reg (.text []))
  (.cond 1 2 (.seq (.reg (.text []))
  .leaf) .leaf))
  (.seq (.reg (.text []))
  .leaf))
theorem vcE154 (b : Bool) (w : World) (R : Value → World → Prop) : vcFn prog f154 an154 [.bool b] w R = VC154 b w R := by kernel_rfl
theorem c154 (b : Bool) (w : World) (R : Value → World → Prop) (hvc : VC154 b w R) : Calls prog 154 ⟨[.bool b]⟩ w fun e w' => ∃ v, e = .returned v ∧ R v w' :=
  vc_calls mixed (fn := f154) (ann := an154) (by kernel_rfl) ((vcE154 b w R).symm ▸ hvc)

/- F130: impl.writeScalarExt -/
def VC130 (wx : Addr) (vKind : Int) (vText : List UInt8) (vMore : List UInt8) (vN : Int) (vBits : Int) (vHigh : Int) (vB : Option Addr) (vB_n vB_c : Nat) (vKids : Option Addr) (vKids_n vKids_c : Nat) (w : World) (R : Value → World → Prop) : Prop :=
  ∀ w1, w1 = w.alloc (.cells ⟨[.int .i64 vKind, .string (mkS vText), .string (mkS vMore), .int .i64 vN, .int .u64 vBits, .int .u64 vHigh, .slice vB vB_n vB_c, .slice vKids vKids_n vKids_c]⟩ 26) → 
  ∃ x6 : Int, w1.cell? ⟨w.heap.size, 0, none⟩ = some (.int .i64 x6) ∧ 
  (decide (x6 = 1) = true →
  ∃ x11 : Int, w1.cell? ⟨w.heap.size, 4, none⟩ = some (.int .u64 x11) ∧ 
    ∃ x12 : Nat, ∃ w2, (callFunc 26 ⟨[.int .u64 x11]⟩).run prog w1 = .ok (.value (.float .f64 x12)) w2 ∧ 
    Calls prog 178 ⟨[.pointer (some wx), .float .f64 x12]⟩ w2 fun e w3 => e = .returned .nilIface ∧ 
    R .nilIface w3) ∧ (decide (x6 = 1) = false →
  (decide (x6 = 2) = true →
    ∃ x18 : List UInt8, w1.cell? ⟨w.heap.size, 1, none⟩ = some (.string (mkS x18)) ∧ 
      Calls prog 179 ⟨[.pointer (some wx), .string (mkS x18)]⟩ w1 fun e w4 => e = .returned .nilIface ∧ 
      R .nilIface w4) ∧ (decide (x6 = 2) = false →
    (decide (x6 = 5) = true →
      ∃ (x24 : Option Addr) (x24_n x24_c : Nat), w1.cell? ⟨w.heap.size, 6, none⟩ = some (.slice x24 x24_n x24_c) ∧ 
        ∃ x26 : Int, w1.cell? ⟨w.heap.size, 3, none⟩ = some (.int .i64 x26) ∧ 
        ∃ x27 : Int, IntKind.u8.wrap x26 = x27 ∧ 
        Calls prog 180 ⟨[.pointer (some wx), .slice x24 x24_n x24_c, .int .u8 x27]⟩ w1 fun e w5 => e = .returned .nilIface ∧ 
        R .nilIface w5) ∧ (decide (x6 = 5) = false →
      (decide (x6 = 6) = true →
        Calls prog 181 ⟨[.pointer (some wx)]⟩ w1 fun e w6 => e = .returned .nilIface ∧ 
          R .nilIface w6) ∧ (decide (x6 = 6) = false →
        (decide (x6 = 7) = true →
          ∃ (x37 : Option Addr) (x37_n x37_c : Nat), w1.cell? ⟨w.heap.size, 6, none⟩ = some (.slice x37 x37_n x37_c) ∧ 
            Calls prog 183 ⟨[.slice x37 x37_n x37_c]⟩ w1 fun e w7 => ∃ x38 : List Value, e = .returned (.agg ⟨x38⟩) ∧ 
            Calls prog 182 ⟨[.pointer (some wx), .agg ⟨x38⟩]⟩ w7 fun e w8 => e = .returned .nilIface ∧ 
            R .nilIface w8) ∧ (decide (x6 = 7) = false →
          (decide (x6 = 8) = true →
            ∃ x44 : Int, w1.cell? ⟨w.heap.size, 3, none⟩ = some (.int .i64 x44) ∧ 
              Calls prog 184 ⟨[.pointer (some wx), .bool (!decide (x44 = 0))]⟩ w1 fun e w9 => e = .returned .nilIface ∧ 
              R .nilIface w9) ∧ (decide (x6 = 8) = false →
            (decide (x6 = 9) = true →
              ∃ x51 : Int, w1.cell? ⟨w.heap.size, 3, none⟩ = some (.int .i64 x51) ∧ 
                Calls prog 185 ⟨[.pointer (some wx), .int .i64 x51]⟩ w1 fun e w10 => e = .returned .nilIface ∧ 
                R .nilIface w10) ∧ (decide (x6 = 9) = false →
              (decide (x6 = 10) = true →
                Calls prog 186 ⟨[.pointer (some wx)]⟩ w1 fun e w11 => e = .returned .nilIface ∧ 
                  R .nilIface w11) ∧ (decide (x6 = 10) = false →
                (decide (x6 = 11) = true →
                  ∃ x61 : List UInt8, w1.cell? ⟨w.heap.size, 1, none⟩ = some (.string (mkS x61)) ∧ 
                    ∃ x63 : List UInt8, w1.cell? ⟨w.heap.size, 2, none⟩ = some (.string (mkS x63)) ∧ 
                    Calls prog 187 ⟨[.pointer (some wx), .string (mkS x61), .string (mkS x63)]⟩ w1 fun e w12 => e = .returned .nilIface ∧ 
                    R .nilIface w12) ∧ (decide (x6 = 11) = false →
                  (decide (x6 = 12) = true →
                    ∃ f : List (Addr × Value), Kept w1 f ∧
                      ∃ x69 : List UInt8, (⟨w.heap.size, 1, none⟩, .string (mkS x69)) ∈ f ∧ 
                      ∃ (x71 : Option Addr) (x71_n x71_c : Nat), (⟨w.heap.size, 6, none⟩, .slice x71 x71_n x71_c) ∈ f ∧ 
                      Calls prog 183 ⟨[.slice x71 x71_n x71_c]⟩ w1.drew fun e w13 => ∃ x72 : List Value, e = .returned (.agg ⟨x72⟩) ∧ 
                      Kept w13 f ∧ Calls prog 188 ⟨[.pointer (some wx), .string (mkS x69), .agg ⟨x72⟩]⟩ w13 fun e w14 => e = .returned .nilIface ∧ 
                      R .nilIface w14) ∧ (decide (x6 = 12) = false →
                    (decide (x6 = 13) = true →
                      ∃ x78 : List UInt8, w1.cell? ⟨w.heap.size, 1, none⟩ = some (.string (mkS x78)) ∧ 
                        Calls prog 189 ⟨[.pointer (some wx), .string (mkS x78)]⟩ w1 fun e w15 => e = .returned .nilIface ∧ 
                        R .nilIface w15) ∧ (decide (x6 = 13) = false →
                      (decide (x6 = 14) = true →
                        ∃ x84 : List UInt8, w1.cell? ⟨w.heap.size, 1, none⟩ = some (.string (mkS x84)) ∧ 
                          Calls prog 190 ⟨[.pointer (some wx), .string (mkS x84)]⟩ w1 fun e w16 => e = .returned .nilIface ∧ 
                          R .nilIface w16) ∧ (decide (x6 = 14) = false →
                        (decide (x6 = 16) = true →
                          ∃ x90 : Int, w1.cell? ⟨w.heap.size, 3, none⟩ = some (.int .i64 x90) ∧ 
                            ∃ x91 : Int, IntKind.i32.wrap x90 = x91 ∧ 
                            Calls prog 191 ⟨[.pointer (some wx), .int .i32 x91]⟩ w1 fun e w17 => e = .returned .nilIface ∧ 
                            R .nilIface w17) ∧ (decide (x6 = 16) = false →
                          (decide (x6 = 17) = true →
                            ∃ x97 : Int, w1.cell? ⟨w.heap.size, 4, none⟩ = some (.int .u64 x97) ∧ 
                              (0 : Int) ≤ 32 ∧ ∃ x98 : Int, Int.fdiv x97 (2 ^ 32) = x98 ∧ 
                              ∃ x99 : Int, IntKind.u32.wrap x98 = x99 ∧ 
                              ∃ x101 : Int, w1.cell? ⟨w.heap.size, 4, none⟩ = some (.int .u64 x101) ∧ 
                              ∃ x102 : Int, IntKind.u32.wrap x101 = x102 ∧ 
                              Calls prog 192 ⟨[.pointer (some wx), .int .u32 x99, .int .u32 x102]⟩ w1 fun e w18 => e = .returned .nilIface ∧ 
                              R .nilIface w18) ∧ (decide (x6 = 17) = false →
                            (decide (x6 = 18) = true →
                              ∃ x108 : Int, w1.cell? ⟨w.heap.size, 3, none⟩ = some (.int .i64 x108) ∧ 
                                Calls prog 193 ⟨[.pointer (some wx), .int .i64 x108]⟩ w1 fun e w19 => e = .returned .nilIface ∧ 
                                R .nilIface w19) ∧ (decide (x6 = 18) = false →
                              (decide (x6 = 19) = true →
                                ∃ x114 : Int, w1.cell? ⟨w.heap.size, 5, none⟩ = some (.int .u64 x114) ∧ 
                                  ∃ x116 : Int, w1.cell? ⟨w.heap.size, 4, none⟩ = some (.int .u64 x116) ∧ 
                                  Calls prog 195 ⟨[.int .u64 x114, .int .u64 x116]⟩ w1 fun e w20 => ∃ x117 : List Value, e = .returned (.agg ⟨x117⟩) ∧ 
                                  Calls prog 194 ⟨[.pointer (some wx), .agg ⟨x117⟩]⟩ w20 fun e w21 => e = .returned .nilIface ∧ 
                                  R .nilIface w21) ∧ (decide (x6 = 19) = false →
                                (decide (x6 = 255) = true →
                                  Calls prog 196 ⟨[.pointer (some wx)]⟩ w1 fun e w22 => e = .returned .nilIface ∧ 
                                    R .nilIface w22) ∧ (decide (x6 = 255) = false →
                                  (decide (x6 = 127) = true →
                                    Calls prog 197 ⟨[.pointer (some wx)]⟩ w1 fun e w23 => e = .returned .nilIface ∧ 
                                      R .nilIface w23) ∧ (decide (x6 = 127) = false →
                                    ∃ x127 : Value, w1.cell? ⟨1, 0, none⟩ = some x127 ∧ 
                                      R x127 w1))))))))))))))))))
def an130 : Ann :=
  .seq (.reg (.text []))
  (.seq (.seq (.reg (.text [.p .n, .p (.sh [.int .i64])]))
  (.block (.seq (.reg (.text []))
  (.cond 1 2 (.seq (.reg (.text [.p .n, .p .n, .p (.sh [.int .u64]), .p (.sh [.float]), .p (.sh [.nil])]))
  .leaf) (.seq (.reg (.text []))
  (.cond 3 4 (.seq (.reg (.text [.p .n, .p .n, .p (.sh [.str]), .p (.sh [.nil])]))
  .leaf) (.seq (.reg (.text []))
  (.cond 5 6 (.seq (.reg (.text [.p .n, .p .n, .p (.sh [.slice]), .p .n, .p (.sh [.int .i64]), .p .n, .p (.sh [.nil])]))
  .leaf) (.seq (.reg (.text []))
  (.cond 7 8 (.seq (.reg (.text [.p .n, .p (.sh [.nil])]))
  .leaf) (.seq (.reg (.text []))
  (.cond 9 10 (.seq (.reg (.text [.p .n, .p .n, .p (.sh [.slice]), .p (.sh [.agg]), .p (.sh [.nil])]))
  .leaf) (.seq (.reg (.text []))
  (.cond 11 12 (.seq (.reg (.text [.p .n, .p .n, .p (.sh [.int .i64]), .p .n, .p (.sh [.nil])]))
  .leaf) (.seq (.reg (.text []))
  (.cond 13 14 (.seq (.reg (.text [.p .n, .p .n, .p (.sh [.int .i64]), .p (.sh [.nil])]))
  .leaf) (.seq (.reg (.text []))
  (.cond 15 16 (.seq (.reg (.text [.p .n, .p (.sh [.nil])]))
  .leaf) (.seq (.reg (.text []))
  (.cond 17 18 (.seq (.reg (.text [.p .n, .p .n, .p (.sh [.str]), .p .n, .p (.sh [.str]), .p (.sh [.nil])]))
  .leaf) (.seq (.reg (.text []))
  (.cond 19 20 (.seq (.reg (.held [6] (.take 0 (.p .n) (.take 1 (.p .n) (.take 2 (.p (.sh [.str])) (.take 3 (.p .n) (.take 4 (.p (.sh [.slice])) (.run 5 (.p (.sh [.agg])) (.run 6 (.p (.sh [.nil])) (.take 7 (.p .n) .done) .done) .done))))))))
  .leaf) (.seq (.reg (.text []))
  (.cond 21 22 (.seq (.reg (.text [.p .n, .p .n, .p (.sh [.str]), .p (.sh [.nil])]))
  .leaf) (.seq (.reg (.text []))
  (.cond 23 24 (.seq (.reg (.text [.p .n, .p .n, .p (.sh [.str]), .p (.sh [.nil])]))
  .leaf) (.seq (.reg (.text []))
  (.cond 25 26 (.seq (.reg (.text [.p .n, .p .n, .p (.sh [.int .i64]), .p .n, .p (.sh [.nil])]))
  .leaf) (.seq (.reg (.text []))
  (.cond 27 28 (.seq (.reg (.text [.p .n, .p .n, .p (.sh [.int .u64]), .p .n, .p .n, .p .n, .p (.sh [.int .u64]), .p .n, .p (.sh [.nil])]))
  .leaf) (.seq (.reg (.text []))
  (.cond 29 30 (.seq (.reg (.text [.p .n, .p .n, .p (.sh [.int .i64]), .p (.sh [.nil])]))
  .leaf) (.seq (.reg (.text []))
  (.cond 31 32 (.seq (.reg (.text [.p .n, .p .n, .p (.sh [.int .u64]), .p .n, .p (.sh [.int .u64]), .p (.sh [.agg]), .p (.sh [.nil])]))
  .leaf) (.seq (.reg (.text []))
  (.cond 33 34 (.seq (.reg (.text [.p .n, .p (.sh [.nil])]))
  .leaf) (.seq (.reg (.text []))
  (.cond 35 36 (.seq (.reg (.text [.p .n, .p (.sh [.nil])]))
  .leaf) .leaf))))))))))))))))))))))))))))))))))))))
  (.seq (.reg (.text [.p (.sh [.any])]))
  .leaf))
theorem vcE130 (wx : Addr) (vKind : Int) (vText : List UInt8) (vMore : List UInt8) (vN : Int) (vBits : Int) (vHigh : Int) (vB : Option Addr) (vB_n vB_c : Nat) (vKids : Option Addr) (vKids_n vKids_c : Nat) (w : World) (R : Value → World → Prop) : vcFn prog f130 an130 [.pointer (some wx), .agg ⟨[.int .i64 vKind, .string (mkS vText), .string (mkS vMore), .int .i64 vN, .int .u64 vBits, .int .u64 vHigh, .slice vB vB_n vB_c, .slice vKids vKids_n vKids_c]⟩] w R = VC130 wx vKind vText vMore vN vBits vHigh vB vB_n vB_c vKids vKids_n vKids_c w R := by kernel_rfl
theorem c130 (wx : Addr) (vKind : Int) (vText : List UInt8) (vMore : List UInt8) (vN : Int) (vBits : Int) (vHigh : Int) (vB : Option Addr) (vB_n vB_c : Nat) (vKids : Option Addr) (vKids_n vKids_c : Nat) (w : World) (R : Value → World → Prop) (hvc : VC130 wx vKind vText vMore vN vBits vHigh vB vB_n vB_c vKids vKids_n vKids_c w R) : Calls prog 130 ⟨[.pointer (some wx), .agg ⟨[.int .i64 vKind, .string (mkS vText), .string (mkS vMore), .int .i64 vN, .int .u64 vBits, .int .u64 vHigh, .slice vB vB_n vB_c, .slice vKids vKids_n vKids_c]⟩]⟩ w fun e w' => ∃ v, e = .returned v ∧ R v w' :=
  vc_calls mixed (fn := f130) (ann := an130) (by kernel_rfl) ((vcE130 wx vKind vText vMore vN vBits vHigh vB vB_n vB_c vKids vKids_n vKids_c w R).symm ▸ hvc)

/- F183: impl.id -/
def VC183 (b : Option Addr) (b_n b_c : Nat) (w : World) (R : Value → World → Prop) : Prop :=
  ∀ w1, w1 = w.alloc (.cells ⟨[.int .u8 0, .int .u8 0, .int .u8 0, .int .u8 0, .int .u8 0, .int .u8 0, .int .u8 0, .int .u8 0, .int .u8 0, .int .u8 0, .int .u8 0, .int .u8 0]⟩ 147) → 
  ∃ x5 : Int, ∃ w2, BuiltinOk prog .copy #[23, 23] 3 [false, false] [.slice (some (⟨w.heap.size, 0, none⟩)) 12 12, .slice b b_n b_c] w1 (.int .i64 x5) w2 ∧ 
  ∃ x6 : Int, ∃ x6_1 : Int, ∃ x6_2 : Int, ∃ x6_3 : Int, ∃ x6_4 : Int, ∃ x6_5 : Int, ∃ x6_6 : Int, ∃ x6_7 : Int, ∃ x6_8 : Int, ∃ x6_9 : Int, ∃ x6_10 : Int, ∃ x6_11 : Int, LoadsRow prog 147 w2 ⟨w.heap.size, 0, none⟩ [.int .u8 x6, .int .u8 x6_1, .int .u8 x6_2, .int .u8 x6_3, .int .u8 x6_4, .int .u8 x6_5, .int .u8 x6_6, .int .u8 x6_7, .int .u8 x6_8, .int .u8 x6_9, .int .u8 x6_10, .int .u8 x6_11] ∧ 
  ∃ w3, (Instr.storeAt 147 (.pointer (some ⟨w.heap.size, 0, none⟩)) (.agg ⟨[.int .u8 x6, .int .u8 x6_1, .int .u8 x6_2, .int .u8 x6_3, .int .u8 x6_4, .int .u8 x6_5, .int .u8 x6_6, .int .u8 x6_7, .int .u8 x6_8, .int .u8 x6_9, .int .u8 x6_10, .int .u8 x6_11]⟩)).run prog w2 = .ok () w3 ∧ 
  ∃ r : List Value, LoadsRow prog 147 w3 ⟨w.heap.size, 0, none⟩ r ∧ R (.agg ⟨r⟩) w3
def an183 : Ann :=
  .seq (.reg (.text []))
  (.seq (.reg (.text [.p .n, .p .n, .p (.sh [.int .i64])]))
  (.seq (.reg (.text [.p (.sh [.int .u8, .int .u8, .int .u8, .int .u8, .int .u8, .int .u8, .int .u8, .int .u8, .int .u8, .int .u8, .int .u8, .int .u8])]))
  .leaf))
theorem vcE183 (b : Option Addr) (b_n b_c : Nat) (w : World) (R : Value → World → Prop) : vcFn prog f183 an183 [.slice b b_n b_c] w R = VC183 b b_n b_c w R := by kernel_rfl
theorem c183 (b : Option Addr) (b_n b_c : Nat) (w : World) (R : Value → World → Prop) (hvc : VC183 b b_n b_c w R) : Calls prog 183 ⟨[.slice b b_n b_c]⟩ w fun e w' => ∃ v, e = .returned v ∧ R v w' :=
  vc_calls mixed (fn := f183) (ann := an183) (by kernel_rfl) ((vcE183 b b_n b_c w R).symm ▸ hvc)

/- F231: bson.formatDouble -/
def VC231 (f : Nat) (w : World) (R : Value → World → Prop) : Prop :=
  Calls prog 29 ⟨[.float .f64 f, .int .i64 1]⟩ w fun e w1 => ∃ x18 : Bool, e = .returned (.bool x18) ∧ 
  (x18 = true →
  R (.string (mkS [73, 110, 102, 105, 110, 105, 116, 121])) w1) ∧ (x18 = false →
  Calls prog 29 ⟨[.float .f64 f, .int .i64 (-1)]⟩ w1 fun e w2 => ∃ x21 : Bool, e = .returned (.bool x21) ∧ 
    (x21 = true →
    R (.string (mkS [45, 73, 110, 102, 105, 110, 105, 116, 121])) w2) ∧ (x21 = false →
    Calls prog 28 ⟨[.float .f64 f]⟩ w2 fun e w3 => ∃ x24 : Bool, e = .returned (.bool x24) ∧ 
      (x24 = true →
      R (.string (mkS [78, 97, 78])) w3) ∧ (x24 = false →
      Calls prog 61 ⟨[.float .f64 f, .int .u8 71, .int .i64 (-1), .int .i64 64]⟩ w3 fun e w4 => ∃ x5 : List UInt8, e = .returned (.string (mkS x5)) ∧ 
        Calls prog 273 ⟨[.string (mkS x5), .int .i32 69]⟩ w4 fun e w5 => ∃ x7 : Bool, e = .returned (.bool x7) ∧ 
        ((!x7) = true →
        Calls prog 273 ⟨[.string (mkS x5), .int .i32 46]⟩ w5 fun e w6 => ∃ x11 : Bool, e = .returned (.bool x11) ∧ 
          ((!x11) = true →
          x5.length + [46, 48].length ≤ 9223372036854775807 ∧ 
            R (.string (mkS (x5 ++ [46, 48]))) w6) ∧ ((!x11) = false →
          R (.string (mkS x5)) w6)) ∧ ((!x7) = false →
        R (.string (mkS x5)) w5))))
def an231 : Ann :=
  .seq (.reg (.text []))
  (.seq (.reg (.text []))
  (.seq (.block (.seq (.reg (.text [.p .n, .p (.sh [.bool])]))
  (.cond 1 2 (.reg (.text [])) (.seq (.reg (.text [.p .n, .p (.sh [.bool])]))
  (.cond 3 4 (.reg (.text [])) (.seq (.reg (.text [.p .n, .p (.sh [.bool])]))
  (.cond 5 6 (.reg (.text [])) (.seq (.reg (.text [.p .n, .p (.sh [.str])]))
  (.seq (.reg (.text [.p .n, .p (.sh [.bool]), .p .n, .p .n, .gs .n 7 8, .on 8 (.p .n) (.p (.sh [.bool]))]))
  (.on 8 (.no .leaf) (.cond 9 10 (.reg (.text [])) .leaf)))))))))))
  (.seq (.reg (.text []))
  .leaf)))
theorem vcE231 (f : Nat) (w : World) (R : Value → World → Prop) : vcFn prog f231 an231 [.float .f64 f] w R = VC231 f w R := by kernel_rfl
theorem c231 (f : Nat) (w : World) (R : Value → World → Prop) (hvc : VC231 f w R) : Calls prog 231 ⟨[.float .f64 f]⟩ w fun e w' => ∃ v, e = .returned v ∧ R v w' :=
  vc_calls mixed (fn := f231) (ann := an231) (by kernel_rfl) ((vcE231 f w R).symm ▸ hvc)

/- F232: bson.extJSONValueWriter).writeExtendedSingleValue -/
def VC232 (ejvw : Addr) (key : List UInt8) (value : List UInt8) (quotes : Bool) (w : World) (R : Value → World → Prop) : Prop :=
  ∀ Kx : List UInt8 → World → Prop, (∀ s : List UInt8, ∀ w1,
  (∃ (x26 : Option Addr) (x26_n x26_c : Nat), w1.cell? (ejvw.add 1) = some (.slice x26 x26_n x26_c) ∧ 
    ∃ (x28 : Option Addr) (x28_n x28_c : Nat), ∃ w2, (convert 9 23 (.string (mkS s))).run prog w1 = .ok (.slice x28 x28_n x28_c) w2 ∧ 
    ∃ (x29 : Option Addr) (x29_n x29_c : Nat), ∃ w3, BuiltinOk prog .append #[23, 23] 23 [false, false] [.slice x26 x26_n x26_c, .slice x28 x28_n x28_c] w2 (.slice x29 x29_n x29_c) w3 ∧ 
    CanStore w3 (ejvw.add 1) (.slice x29 x29_n x29_c) ∧ ∀ w4, w4 = w3.setCell (ejvw.add 1) (.slice x29 x29_n x29_c) → 
    R (.tuple ⟨[]⟩) w4) → Kx s w1) →
  (quotes = true →
  [123, 34, 36].length + key.length ≤ 9223372036854775807 ∧ 
    ([123, 34, 36] ++ key).length + [34, 58, 34].length ≤ 9223372036854775807 ∧ 
    (([123, 34, 36] ++ key) ++ [34, 58, 34]).length + value.length ≤ 9223372036854775807 ∧ 
    ((([123, 34, 36] ++ key) ++ [34, 58, 34]) ++ value).length + [34, 125].length ≤ 9223372036854775807 ∧ 
    Kx (((([123, 34, 36] ++ key) ++ [34, 58, 34]) ++ value) ++ [34, 125]) w) ∧ (quotes = false →
  [123, 34, 36].length + key.length ≤ 9223372036854775807 ∧ 
    ([123, 34, 36] ++ key).length + [34, 58].length ≤ 9223372036854775807 ∧ 
    (([123, 34, 36] ++ key) ++ [34, 58]).length + value.length ≤ 9223372036854775807 ∧ 
    ((([123, 34, 36] ++ key) ++ [34, 58]) ++ value).length + [125].length ≤ 9223372036854775807 ∧ 
    Kx (((([123, 34, 36] ++ key) ++ [34, 58]) ++ value) ++ [125]) w)
def an232 : Ann :=
  .seq (.reg (.text []))
  (.cut [(8, .str)] [0] (.seq (.reg (.text []))
  (.cond 1 2 (.reg (.text [])) (.reg (.text []))))
  (.reg (.text [.p .n, .p .n, .p .n, .p .n, .p (.sh [.slice]), .p .n, .p (.sh [.slice]), .p (.sh [.slice])])))
theorem vcE232 (ejvw : Addr) (key : List UInt8) (value : List UInt8) (quotes : Bool) (w : World) (R : Value → World → Prop) : vcFn prog f232 an232 [.pointer (some ejvw), .string (mkS key), .string (mkS value), .bool quotes] w R = VC232 ejvw key value quotes w R := by kernel_rfl
theorem c232 (ejvw : Addr) (key : List UInt8) (value : List UInt8) (quotes : Bool) (w : World) (R : Value → World → Prop) (hvc : VC232 ejvw key value quotes w R) : Calls prog 232 ⟨[.pointer (some ejvw), .string (mkS key), .string (mkS value), .bool quotes]⟩ w fun e w' => ∃ v, e = .returned v ∧ R v w' :=
  vc_calls mixed (fn := f232) (ann := an232) (by kernel_rfl) ((vcE232 ejvw key value quotes w R).symm ▸ hvc)

/- F233: bson.zzBase64 -/
def VC233 (b : Option Addr) (b_n b_c : Nat) (w : World) (R : Value → World → Prop) : Prop :=
  Calls prog 274 ⟨[]⟩ w fun e w1 => ∃ x3 : Option Addr, e = .returned (.pointer x3) ∧ 
  Calls prog 150 ⟨[.pointer x3, .slice b b_n b_c]⟩ w1 fun e w2 => ∃ x5 : List UInt8, e = .returned (.string (mkS x5)) ∧ 
  R (.string (mkS x5)) w2
def an233 : Ann :=
  .seq (.reg (.text []))
  (.seq (.reg (.text [.p (.sh [.ptr]), .p .n, .p (.sh [.str])]))
  .leaf)
theorem vcE233 (b : Option Addr) (b_n b_c : Nat) (w : World) (R : Value → World → Prop) : vcFn prog f233 an233 [.slice b b_n b_c] w R = VC233 b b_n b_c w R := by kernel_rfl
theorem c233 (b : Option Addr) (b_n b_c : Nat) (w : World) (R : Value → World → Prop) (hvc : VC233 b b_n b_c w R) : Calls prog 233 ⟨[.slice b b_n b_c]⟩ w fun e w' => ∃ v, e = .returned v ∧ R v w' :=
  vc_calls mixed (fn := f233) (ann := an233) (by kernel_rfl) ((vcE233 b b_n b_c w R).symm ▸ hvc)

/- F234: bson.zzHex2 -/
def VC234 (b : Int) (w : World) (R : Value → World → Prop) : Prop :=
  ∃ f : List (Addr × Value), Kept w f ∧
  (0 : Int) ≤ 4 ∧ ∃ x4 : Int, Int.fdiv b (2 ^ 4) = x4 ∧ 
  ∃ x5 : UInt8, ((0 : Int) ≤ x4 ∧ [48, 49, 50, 51, 52, 53, 54, 55, 56, 57, 97, 98, 99, 100, 101, 102][x4.toNat]? = some x5) ∧ 
  ∃ x7 : Int, bits .and .u8 b 15 = x7 ∧ 
  ∃ x8 : UInt8, ((0 : Int) ≤ x7 ∧ [48, 49, 50, 51, 52, 53, 54, 55, 56, 57, 97, 98, 99, 100, 101, 102][x7.toNat]? = some x8) ∧ 
  ∀ w1, w1 = w.drew.alloc (.cells ⟨[.int .u8 (x5.toNat : Int), .int .u8 (x8.toNat : Int)]⟩ 5) → 
  ∃ x10 : List UInt8, ∃ w2, (convert 23 9 (.slice (some (⟨w.drew.heap.size, 0, none⟩)) 2 2)).run prog w1 = .ok (.string (mkS x10)) w2 ∧ 
  R (.string (mkS x10)) w2
def an234 : Ann :=
  .seq (.reg (.text []))
  (.seq (.reg (.held [6, 7] (.take 0 (.p .n) (.take 1 (.p .n) (.take 2 (.p .n) (.take 3 (.p .n) (.take 4 (.p .n) (.take 5 (.p .n) (.run 6 (.p .n) (.run 7 (.p (.sh [.str])) (.take 8 (.p .n) .done) .done) .done)))))))))
  .leaf)
theorem vcE234 (b : Int) (w : World) (R : Value → World → Prop) : vcFn prog f234 an234 [.int .u8 b] w R = VC234 b w R := by kernel_rfl
theorem c234 (b : Int) (w : World) (R : Value → World → Prop) (hvc : VC234 b w R) : Calls prog 234 ⟨[.int .u8 b]⟩ w fun e w' => ∃ v, e = .returned v ∧ R v w' :=
  vc_calls mixed (fn := f234) (ann := an234) (by kernel_rfl) ((vcE234 b w R).symm ▸ hvc)

/- F235: bson.ObjectID).Hex -/
def VC235 (id0 : Int) (id1 : Int) (id2 : Int) (id3 : Int) (id4 : Int) (id5 : Int) (id6 : Int) (id7 : Int) (id8 : Int) (id9 : Int) (id10 : Int) (id11 : Int) (w : World) (R : Value → World → Prop) : Prop :=
  ∀ w1, w1 = w.alloc (.cells ⟨[.int .u8 id0, .int .u8 id1, .int .u8 id2, .int .u8 id3, .int .u8 id4, .int .u8 id5, .int .u8 id6, .int .u8 id7, .int .u8 id8, .int .u8 id9, .int .u8 id10, .int .u8 id11]⟩ 307) → 
  ∀ w2, w2 = w1.alloc (.cells ⟨[.int .u8 0, .int .u8 0, .int .u8 0, .int .u8 0, .int .u8 0, .int .u8 0, .int .u8 0, .int .u8 0, .int .u8 0, .int .u8 0, .int .u8 0, .int .u8 0, .int .u8 0, .int .u8 0, .int .u8 0, .int .u8 0, .int .u8 0, .int .u8 0, .int .u8 0, .int .u8 0, .int .u8 0, .int .u8 0, .int .u8 0, .int .u8 0]⟩ 174) → 
  ∃ f : List (Addr × Value), Kept w2 f ∧
  Calls prog 152 ⟨[.slice (some (⟨w1.heap.size, 0, none⟩)) 24 24, .slice (some (⟨w.heap.size, 0, none⟩)) 12 12]⟩ w2.drew fun e w3 => ∃ x6 : Int, e = .returned (.int .i64 x6) ∧ 
  ∃ x8 : List UInt8, ∃ w4, (convert 23 9 (.slice (some (⟨w1.heap.size, 0, none⟩)) 24 24)).run prog w3 = .ok (.string (mkS x8)) w4 ∧ 
  R (.string (mkS x8)) w4
def an235 : Ann :=
  .seq (.reg (.text []))
  (.seq (.reg (.text []))
  (.seq (.reg (.held [2] (.take 0 (.p .n) (.take 1 (.p .n) (.run 2 (.p (.sh [.int .i64])) .done .done)))))
  (.seq (.reg (.text [.p .n, .p (.sh [.str])]))
  .leaf)))
theorem vcE235 (id0 : Int) (id1 : Int) (id2 : Int) (id3 : Int) (id4 : Int) (id5 : Int) (id6 : Int) (id7 : Int) (id8 : Int) (id9 : Int) (id10 : Int) (id11 : Int) (w : World) (R : Value → World → Prop) : vcFn prog f235 an235 [.agg ⟨[.int .u8 id0, .int .u8 id1, .int .u8 id2, .int .u8 id3, .int .u8 id4, .int .u8 id5, .int .u8 id6, .int .u8 id7, .int .u8 id8, .int .u8 id9, .int .u8 id10, .int .u8 id11]⟩] w R = VC235 id0 id1 id2 id3 id4 id5 id6 id7 id8 id9 id10 id11 w R := by kernel_rfl
theorem c235 (id0 : Int) (id1 : Int) (id2 : Int) (id3 : Int) (id4 : Int) (id5 : Int) (id6 : Int) (id7 : Int) (id8 : Int) (id9 : Int) (id10 : Int) (id11 : Int) (w : World) (R : Value → World → Prop) (hvc : VC235 id0 id1 id2 id3 id4 id5 id6 id7 id8 id9 id10 id11 w R) : Calls prog 235 ⟨[.agg ⟨[.int .u8 id0, .int .u8 id1, .int .u8 id2, .int .u8 id3, .int .u8 id4, .int .u8 id5, .int .u8 id6, .int .u8 id7, .int .u8 id8, .int .u8 id9, .int .u8 id10, .int .u8 id11]⟩]⟩ w fun e w' => ∃ v, e = .returned v ∧ R v w' :=
  vc_calls mixed (fn := f235) (ann := an235) (by kernel_rfl) ((vcE235 id0 id1 id2 id3 id4 id5 id6 id7 id8 id9 id10 id11 w R).symm ▸ hvc)

/- F236: bson.sortStringAlphebeticAscending -/
def VC236 (s : List UInt8) (w : World) (R : Value → World → Prop) : Prop :=
  ∃ (x5 : Option Addr) (x5_n x5_c : Nat), ∃ w1, (convert 9 223 (.string (mkS s))).run prog w = .ok (.slice x5 x5_n x5_c) w1 ∧ 
  Calls prog 157 ⟨[.iface 343 (.slice x5 x5_n x5_c)]⟩ w1 fun e w2 => e = .returned (.tuple ⟨[]⟩) ∧ 
  ∃ x10 : List UInt8, ∃ w3, (convert 223 9 (.slice x5 x5_n x5_c)).run prog w2 = .ok (.string (mkS x10)) w3 ∧ 
  R (.string (mkS x10)) w3
def an236 : Ann :=
  .seq (.reg (.text []))
  (.seq (.reg (.text [.p .n, .p (.sh [.slice])]))
  (.seq (.reg (.text [.p .n, .p .n, .p (.sh [])]))
  (.seq (.reg (.text [.p .n, .p (.sh [.str])]))
  .leaf)))
theorem vcE236 (s : List UInt8) (w : World) (R : Value → World → Prop) : vcFn prog f236 an236 [.string (mkS s)] w R = VC236 s w R := by kernel_rfl
theorem c236 (s : List UInt8) (w : World) (R : Value → World → Prop) (hvc : VC236 s w R) : Calls prog 236 ⟨[.string (mkS s)]⟩ w fun e w' => ∃ v, e = .returned v ∧ R v w' :=
  vc_calls mixed (fn := f236) (ann := an236) (by kernel_rfl) ((vcE236 s w R).symm ▸ hvc)

/- F237: bson.Decimal128).String -/
def VC237 (dh : Int) (dl : Int) (w : World) (R : Value → World → Prop) : Prop :=
  ∀ w1, w1 = w.alloc (.cells ⟨[.int .u64 dh, .int .u64 dl]⟩ 263) → 
  ∃ x4 : Int, w1.cell? ⟨w.heap.size, 0, none⟩ = some (.int .u64 x4) ∧ 
  ∃ x6 : Int, w1.cell? ⟨w.heap.size, 1, none⟩ = some (.int .u64 x6) ∧ 
  Calls prog 107 ⟨[.int .u64 x4, .int .u64 x6]⟩ w1 fun e w2 => ∃ x7 : List UInt8, e = .returned (.string (mkS x7)) ∧ 
  R (.string (mkS x7)) w2
def an237 : Ann :=
  .seq (.reg (.text []))
  (.seq (.reg (.text [.p .n, .p (.sh [.int .u64]), .p .n, .p (.sh [.int .u64]), .p (.sh [.str])]))
  .leaf)
theorem vcE237 (dh : Int) (dl : Int) (w : World) (R : Value → World → Prop) : vcFn prog f237 an237 [.agg ⟨[.int .u64 dh, .int .u64 dl]⟩] w R = VC237 dh dl w R := by kernel_rfl
theorem c237 (dh : Int) (dl : Int) (w : World) (R : Value → World → Prop) (hvc : VC237 dh dl w R) : Calls prog 237 ⟨[.agg ⟨[.int .u64 dh, .int .u64 dl]⟩]⟩ w fun e w' => ∃ v, e = .returned v ∧ R v w' :=
  vc_calls mixed (fn := f237) (ann := an237) (by kernel_rfl) ((vcE237 dh dl w R).symm ▸ hvc)

end Go.Proofs.Tryz
