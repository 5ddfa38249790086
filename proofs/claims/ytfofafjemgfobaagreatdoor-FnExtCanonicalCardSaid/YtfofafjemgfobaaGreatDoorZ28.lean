/- A part of a proof. -/
import Derived.Test.YtfofafjemgfobaaGreatDoorZ4
set_option linter.unusedVariables false
set_option maxRecDepth 100000
namespace Go.Proofs.Tryz
open Go.Vc

/- F61: strconv.FormatFloat -/
def VC61 (f : Nat) (fmt : Int) (prec : Int) (bitSize : Int) (w : World) (R : Value → World → Prop) : Prop :=
  Calls prog 117 ⟨[.float .f64 f, .int .u8 fmt, .int .i64 prec, .int .i64 bitSize]⟩ w fun e w1 => ∃ x13 : List UInt8, e = .returned (.string (mkS x13)) ∧ 
  R (.string (mkS x13)) w1
def an61 : Ann :=
  .seq (.reg (.text []))
  (.seq (.reg (.text [.p .n, .p .n, .p .n, .p .n, .p (.sh [.str])]))
  .leaf)
theorem vcE61 (f : Nat) (fmt : Int) (prec : Int) (bitSize : Int) (w : World) (R : Value → World → Prop) : vcFn prog f61 an61 [.float .f64 f, .int .u8 fmt, .int .i64 prec, .int .i64 bitSize] w R = VC61 f fmt prec bitSize w R := by kernel_rfl
theorem c61 (f : Nat) (fmt : Int) (prec : Int) (bitSize : Int) (w : World) (R : Value → World → Prop) (hvc : VC61 f fmt prec bitSize w R) : Calls prog 61 ⟨[.float .f64 f, .int .u8 fmt, .int .i64 prec, .int .i64 bitSize]⟩ w fun e w' => ∃ v, e = .returned v ∧ R v w' :=
  vc_calls mixed (fn := f61) (ann := an61) (by kernel_rfl) ((vcE61 f fmt prec bitSize w R).symm ▸ hvc)

/- F117: strconv.FormatFloat -/
def VC117 (f : Nat) (fmt : Int) (prec : Int) (bitSize : Int) (w : World) (R : Value → World → Prop) : Prop :=
  (decide (bitSize = 32) = true →
  ∃ x12 : Int, IntKind.i64.wrap (prec + 4) = x12 ∧ 
    ∃ x13 : Int, (if (24 : Int) > x12 then 24 else x12) = x13 ∧ 
    ∃ (x14 : Option Addr) (x14_n x14_c : Nat), ∃ w1, (Instr.makeSlice 23 (.int .i64 0) (.int .i64 x13)).run prog w = .ok (.slice x14 x14_n x14_c) w1 ∧ 
    ∃ x16 : Nat, ∃ w2, (convert 52 240 (.float .f64 f)).run prog w1 = .ok (.float .f64 x16) w2 ∧ 
    Calls prog 170 ⟨[.slice x14 x14_n x14_c, .float .f64 x16, .int .u8 fmt, .int .i64 prec]⟩ w2 fun e w3 => ∃ (x19 : Option Addr) (x19_n x19_c : Nat), e = .returned (.slice x19 x19_n x19_c) ∧ 
    ∃ x20 : List UInt8, ∃ w4, (convert 23 9 (.slice x19 x19_n x19_c)).run prog w3 = .ok (.string (mkS x20)) w4 ∧ 
    R (.string (mkS x20)) w4) ∧ (decide (bitSize = 32) = false →
  (decide (bitSize = 64) = true →
    ∃ x24 : Int, IntKind.i64.wrap (prec + 4) = x24 ∧ 
      ∃ x25 : Int, (if (24 : Int) > x24 then 24 else x24) = x25 ∧ 
      ∃ (x26 : Option Addr) (x26_n x26_c : Nat), ∃ w5, (Instr.makeSlice 23 (.int .i64 0) (.int .i64 x25)).run prog w = .ok (.slice x26 x26_n x26_c) w5 ∧ 
      Calls prog 171 ⟨[.slice x26 x26_n x26_c, .float .f64 f, .int .u8 fmt, .int .i64 prec]⟩ w5 fun e w6 => ∃ (x30 : Option Addr) (x30_n x30_c : Nat), e = .returned (.slice x30 x30_n x30_c) ∧ 
      ∃ x31 : List UInt8, ∃ w7, (convert 23 9 (.slice x30 x30_n x30_c)).run prog w6 = .ok (.string (mkS x31)) w7 ∧ 
      R (.string (mkS x31)) w7) ∧ (decide (bitSize = 64) = false →
    False))
def an117 : Ann :=
  .seq (.reg (.text []))
  (.seq (.seq (.reg (.text []))
  (.cond 1 2 (.seq (.reg (.text [.p .n, .p .n, .p .n, .p (.sh [.slice]), .p .n, .p (.sh [.float]), .p .n, .p .n, .p (.sh [.slice]), .p (.sh [.str])]))
  .leaf) .leaf))
  (.seq (.seq (.reg (.text []))
  (.cond 3 4 (.seq (.reg (.text [.p .n, .p .n, .p .n, .p (.sh [.slice]), .p .n, .p .n, .p .n, .p (.sh [.slice]), .p (.sh [.str])]))
  .leaf) .leaf))
  (.reg (.text []))))
theorem vcE117 (f : Nat) (fmt : Int) (prec : Int) (bitSize : Int) (w : World) (R : Value → World → Prop) : vcFn prog f117 an117 [.float .f64 f, .int .u8 fmt, .int .i64 prec, .int .i64 bitSize] w R = VC117 f fmt prec bitSize w R := by kernel_rfl
theorem c117 (f : Nat) (fmt : Int) (prec : Int) (bitSize : Int) (w : World) (R : Value → World → Prop) (hvc : VC117 f fmt prec bitSize w R) : Calls prog 117 ⟨[.float .f64 f, .int .u8 fmt, .int .i64 prec, .int .i64 bitSize]⟩ w fun e w' => ∃ v, e = .returned v ∧ R v w' :=
  vc_calls mixed (fn := f117) (ann := an117) (by kernel_rfl) ((vcE117 f fmt prec bitSize w R).symm ▸ hvc)

/- F171: strconv.ftoa64 -/
def VC171 (dst : Option Addr) (dst_n dst_c : Nat) (val : Nat) (fmt : Int) (prec : Int) (w : World) (R : Value → World → Prop) : Prop :=
  ∀ Kx : Int → Int → Int → Int → World → Prop, (∀ b : Int, ∀ expBits : Int, ∀ mantBits : Int, ∀ bias : Int, ∀ w1,
  (∃ x47 : Int, IntKind.i64.wrap (expBits + mantBits) = x47 ∧ 
    (0 : Int) ≤ x47 ∧ ∃ x48 : Int, Int.fdiv b (2 ^ (min x47.toNat 64)) = x48 ∧ 
    (0 : Int) ≤ mantBits ∧ ∃ x52 : Int, Int.fdiv b (2 ^ (min mantBits.toNat 64)) = x52 ∧ 
    ∃ x53 : Int, IntKind.i64.wrap x52 = x53 ∧ 
    (0 : Int) ≤ expBits ∧ ∃ x55 : Int, IntKind.i64.wrap (1 * 2 ^ (min expBits.toNat 64)) = x55 ∧ 
    ∃ x56 : Int, IntKind.i64.wrap (x55 - 1) = x56 ∧ 
    ∃ x57 : Int, bits .and .i64 x53 x56 = x57 ∧ 
    (0 : Int) ≤ mantBits ∧ ∃ x60 : Int, IntKind.u64.wrap (1 * 2 ^ (min mantBits.toNat 64)) = x60 ∧ 
    ∃ x61 : Int, IntKind.u64.wrap (x60 - 1) = x61 ∧ 
    ∃ x62 : Int, bits .and .u64 b x61 = x62 ∧ 
    (0 : Int) ≤ expBits ∧ ∃ x65 : Int, IntKind.i64.wrap (1 * 2 ^ (min expBits.toNat 64)) = x65 ∧ 
    ∃ x66 : Int, IntKind.i64.wrap (x65 - 1) = x66 ∧ 
    (decide (x57 = x66) = true →
    ((!decide (x62 = 0)) = true →
      ∃ (x71 : Option Addr) (x71_n x71_c : Nat), ∃ w2, BuiltinOk prog .append #[23, 9] 23 [false, true] [.slice dst dst_n dst_c, .string (mkS [78, 97, 78])] w1.drew (.slice x71 x71_n x71_c) w2 ∧ 
        R (.slice x71 x71_n x71_c) w2) ∧ ((!decide (x62 = 0)) = false →
      ((!decide (x48 = 0)) = true →
        ∃ (x74 : Option Addr) (x74_n x74_c : Nat), ∃ w3, BuiltinOk prog .append #[23, 9] 23 [false, true] [.slice dst dst_n dst_c, .string (mkS [45, 73, 110, 102])] w1.drew (.slice x74 x74_n x74_c) w3 ∧ 
          R (.slice x74 x74_n x74_c) w3) ∧ ((!decide (x48 = 0)) = false →
        ∃ (x76 : Option Addr) (x76_n x76_c : Nat), ∃ w4, BuiltinOk prog .append #[23, 9] 23 [false, true] [.slice dst dst_n dst_c, .string (mkS [43, 73, 110, 102])] w1.drew (.slice x76 x76_n x76_c) w4 ∧ 
          R (.slice x76 x76_n x76_c) w4))) ∧ (decide (x57 = x66) = false →
    ∀ Kx_1 : Int → Int → World → Prop, (∀ exp : Int, ∀ mant : Int, ∀ w5,
      (∃ x87 : Int, IntKind.i64.wrap (exp + bias) = x87 ∧ 
        (decide (fmt = 98) = true →
        ∃ x95 : Int, IntKind.i64.wrap (x87 - mantBits) = x95 ∧ 
          Calls prog 219 ⟨[.slice dst dst_n dst_c, .bool (!decide (x48 = 0)), .int .u64 mant, .int .i64 x95]⟩ w5 fun e w6 => ∃ (x96 : Option Addr) (x96_n x96_c : Nat), e = .returned (.slice x96 x96_n x96_c) ∧ 
          R (.slice x96 x96_n x96_c) w6) ∧ (decide (fmt = 98) = false →
        ∀ Kx_2 : Bool → World → Prop, (∀ x102 : Bool, ∀ w7,
          ((x102 = true →
            Calls prog 220 ⟨[.slice dst dst_n dst_c, .int .i64 prec, .int .u8 fmt, .bool (!decide (x48 = 0)), .int .u64 mant, .int .i64 x87, .int .i64 mantBits]⟩ w7 fun e w8 => ∃ (x110 : Option Addr) (x110_n x110_c : Nat), e = .returned (.slice x110 x110_n x110_c) ∧ 
              R (.slice x110 x110_n x110_c) w8) ∧ (x102 = false →
            (decide (mant = 0) = true →
              Calls prog 221 ⟨[.slice dst dst_n dst_c, .bool (!decide (x48 = 0)), .slice none 0 0, .int .i64 0, .int .i64 0, .int .i64 prec, .int .u8 fmt, .bool (decide (prec < 0))]⟩ w7 fun e w9 => ∃ (x119 : Option Addr) (x119_n x119_c : Nat), e = .returned (.slice x119 x119_n x119_c) ∧ 
                R (.slice x119 x119_n x119_c) w9) ∧ (decide (mant = 0) = false →
              (decide (prec < 0) = true →
                ∀ w10, w10 = w7.alloc (.cells ⟨[.int .u8 0, .int .u8 0, .int .u8 0, .int .u8 0, .int .u8 0, .int .u8 0, .int .u8 0, .int .u8 0, .int .u8 0, .int .u8 0, .int .u8 0, .int .u8 0, .int .u8 0, .int .u8 0, .int .u8 0, .int .u8 0, .int .u8 0, .int .u8 0, .int .u8 0, .int .u8 0, .int .u8 0, .int .u8 0, .int .u8 0, .int .u8 0, .int .u8 0, .int .u8 0, .int .u8 0, .int .u8 0, .int .u8 0, .int .u8 0, .int .u8 0, .int .u8 0]⟩ 294) → 
                  Calls prog 173 ⟨[.int .u64 mant]⟩ w10 fun e w11 => ∃ x123 : Int, e = .returned (.int .i64 x123) ∧ 
                  ∃ x124 : Int, IntKind.i64.wrap (64 - x123) = x124 ∧ 
                  (0 : Int) ≤ x124 ∧ ∃ x127 : Int, IntKind.u64.wrap (mant * 2 ^ (min x124.toNat 64)) = x127 ∧ 
                  ∃ x130 : Int, IntKind.i64.wrap (x87 - x124) = x130 ∧ 
                  ∃ x135 : Int, IntKind.i64.wrap (x130 - mantBits) = x135 ∧ 
                  Calls prog 228 ⟨[.int .u64 x127, .int .i64 x135]⟩ w11 fun e w12 => ∃ x136 : Int, ∃ x136_1 : Int, e = .returned (.tuple ⟨[.int .u64 x136, .int .i64 x136_1]⟩) ∧ 
                  ∃ f : List (Addr × Value), Kept w12 f ∧
                  Calls prog 119 ⟨[.int .u64 x136]⟩ w12.drew fun e w13 => ∃ x144 : Int, e = .returned (.int .i64 x144) ∧ 
                  Calls prog 223 ⟨[.slice (some (⟨w7.heap.size, 0, none⟩)) 32 32, .int .u64 x136, .int .i64 x136_1, .int .i64 x144]⟩ w13 fun e w14 => ∃ x145 : Int, ∃ x145_1 : Int, e = .returned (.tuple ⟨[.int .i64 x145, .int .i64 x145_1]⟩) ∧ 
                  ∀ Kx_3 : Int → World → Prop, (∀ prec_1 : Int, ∀ w15,
                  (Calls prog 221 ⟨[.slice dst dst_n dst_c, .bool (!decide (x48 = 0)), .slice (some (⟨w7.heap.size, 0, none⟩)) 32 32, .int .i64 x145, .int .i64 x145_1, .int .i64 prec_1, .int .u8 fmt, .bool true]⟩ w15 fun e w16 => ∃ (x172 : Option Addr) (x172_n x172_c : Nat), e = .returned (.slice x172 x172_n x172_c) ∧ 
                    R (.slice x172 x172_n x172_c) w16) → Kx_3 prec_1 w15) →
                  ∀ Kx_4 : Bool → World → Prop, (∀ x149 : Bool, ∀ w17,
                  ((x149 = true →
                    ∃ x153 : Int, IntKind.i64.wrap (x145_1 - 1) = x153 ∧ 
                      ∃ x154 : Int, (if (0 : Int) > x153 then 0 else x153) = x154 ∧ 
                      Kx_3 x154 w17) ∧ (x149 = false →
                    (decide (fmt = 102) = true →
                      ∃ x159 : Int, IntKind.i64.wrap (x145_1 - x145) = x159 ∧ 
                        ∃ x160 : Int, (if (0 : Int) > x159 then 0 else x159) = x160 ∧ 
                        Kx_3 x160 w17) ∧ (decide (fmt = 102) = false →
                      (decide (fmt = 103) = true →
                        (decide (fmt = 103) = true →
                          Kx_3 x145_1 w17) ∧ (decide (fmt = 103) = false →
                          Kx_3 prec w17)) ∧ (decide (fmt = 103) = false →
                        (decide (fmt = 71) = true →
                          Kx_3 x145_1 w17) ∧ (decide (fmt = 71) = false →
                          Kx_3 prec w17))))) → Kx_4 x149 w17) →
                  (decide (fmt = 101) = true →
                  Kx_4 (decide (fmt = 101)) w14) ∧ (decide (fmt = 101) = false →
                  Kx_4 (decide (fmt = 69)) w14)) ∧ (decide (prec < 0) = false →
                ∀ Kx_5 : Int → World → Prop, (∀ prec_2 : Int, ∀ w18,
                  (∀ w19, w19 = w18.alloc (.cells ((zeros prog 302).getD #[]) 302) → 
                    Calls prog 225 ⟨[.pointer (some (⟨w18.heap.size, 0, none⟩)), .int .u64 mant]⟩ w19 fun e w20 => e = .returned (.tuple ⟨[]⟩) ∧ 
                    ∃ x253 : Int, IntKind.i64.wrap (x87 - mantBits) = x253 ∧ 
                    Calls prog 226 ⟨[.pointer (some (⟨w18.heap.size, 0, none⟩)), .int .i64 x253]⟩ w20 fun e w21 => e = .returned (.tuple ⟨[]⟩) ∧ 
                    ∀ Kx_6 : Int → World → Prop, (∀ prec_3 : Int, ∀ w22,
                    (∃ f_1 : List (Addr × Value), Kept w22 f_1 ∧
                      ∃ x290 : Int, (⟨w18.heap.size, 801, none⟩, .int .i64 x290) ∈ f_1 ∧ 
                      ∃ x294 : Int, (⟨w18.heap.size, 800, none⟩, .int .i64 x294) ∈ f_1 ∧ 
                      Calls prog 221 ⟨[.slice dst dst_n dst_c, .bool (!decide (x48 = 0)), .slice (some (⟨w18.heap.size, 0, none⟩)) 800 800, .int .i64 x290, .int .i64 x294, .int .i64 prec_3, .int .u8 fmt, .bool false]⟩ w22.drew fun e w23 => ∃ (x297 : Option Addr) (x297_n x297_c : Nat), e = .returned (.slice x297 x297_n x297_c) ∧ 
                      R (.slice x297 x297_n x297_c) w23) → Kx_6 prec_3 w22) →
                    ∀ Kx_7 : Bool → World → Prop, (∀ x256 : Bool, ∀ w24,
                    ((x256 = true →
                      ∃ x261 : Int, IntKind.i64.wrap (prec_2 + 1) = x261 ∧ 
                        Calls prog 227 ⟨[.pointer (some (⟨w18.heap.size, 0, none⟩)), .int .i64 x261]⟩ w24 fun e w25 => e = .returned (.tuple ⟨[]⟩) ∧ 
                        Kx_6 prec_2 w25) ∧ (x256 = false →
                      (decide (fmt = 102) = true →
                        ∃ x269 : Int, w24.cell? ⟨w18.heap.size, 801, none⟩ = some (.int .i64 x269) ∧ 
                          ∃ x271 : Int, IntKind.i64.wrap (x269 + prec_2) = x271 ∧ 
                          Calls prog 227 ⟨[.pointer (some (⟨w18.heap.size, 0, none⟩)), .int .i64 x271]⟩ w24 fun e w26 => e = .returned (.tuple ⟨[]⟩) ∧ 
                          Kx_6 prec_2 w26) ∧ (decide (fmt = 102) = false →
                        ∀ Kx_8 : Bool → World → Prop, (∀ x273 : Bool, ∀ w27,
                          ((x273 = true →
                            (decide (prec_2 = 0) = true →
                              Calls prog 227 ⟨[.pointer (some (⟨w18.heap.size, 0, none⟩)), .int .i64 1]⟩ w27 fun e w28 => e = .returned (.tuple ⟨[]⟩) ∧ 
                                Kx_6 1 w28) ∧ (decide (prec_2 = 0) = false →
                              Calls prog 227 ⟨[.pointer (some (⟨w18.heap.size, 0, none⟩)), .int .i64 prec_2]⟩ w27 fun e w29 => e = .returned (.tuple ⟨[]⟩) ∧ 
                                Kx_6 prec_2 w29)) ∧ (x273 = false →
                            Kx_6 prec_2 w27)) → Kx_8 x273 w27) →
                          (decide (fmt = 103) = true →
                          Kx_8 (decide (fmt = 103)) w24) ∧ (decide (fmt = 103) = false →
                          Kx_8 (decide (fmt = 71)) w24)))) → Kx_7 x256 w24) →
                    (decide (fmt = 101) = true →
                    Kx_7 (decide (fmt = 101)) w21) ∧ (decide (fmt = 101) = false →
                    Kx_7 (decide (fmt = 69)) w21)) → Kx_5 prec_2 w18) →
                  ∃ x173 : Bool, w7.cell? ⟨7, 0, none⟩ = some (.bool x173) ∧ 
                  (x173 = true →
                  ∀ Kx_9 : Int → Int → World → Prop, (∀ prec_4 : Int, ∀ digits : Int, ∀ w30,
                    ((decide (digits ≤ 18) = true →
                      ∀ w31, w31 = w30.alloc (.cells ⟨[.int .u8 0, .int .u8 0, .int .u8 0, .int .u8 0, .int .u8 0, .int .u8 0, .int .u8 0, .int .u8 0, .int .u8 0, .int .u8 0, .int .u8 0, .int .u8 0, .int .u8 0, .int .u8 0, .int .u8 0, .int .u8 0, .int .u8 0, .int .u8 0, .int .u8 0, .int .u8 0, .int .u8 0, .int .u8 0, .int .u8 0, .int .u8 0]⟩ 174) → 
                        ∀ Kx_10 : Int → Int → World → Prop, (∀ dp : Int, ∀ nd : Int, ∀ w32,
                        (Calls prog 221 ⟨[.slice dst dst_n dst_c, .bool (!decide (x48 = 0)), .slice (some (⟨w30.heap.size, 0, none⟩)) 24 24, .int .i64 dp, .int .i64 nd, .int .i64 prec_4, .int .u8 fmt, .bool false]⟩ w32 fun e w33 => ∃ (x245 : Option Addr) (x245_n x245_c : Nat), e = .returned (.slice x245 x245_n x245_c) ∧ 
                          R (.slice x245 x245_n x245_c) w33) → Kx_10 dp nd w32) →
                        (decide (0 < digits) = true →
                        Calls prog 173 ⟨[.int .u64 mant]⟩ w31 fun e w34 => ∃ x208 : Int, e = .returned (.int .i64 x208) ∧ 
                          ∃ x209 : Int, IntKind.i64.wrap (64 - x208) = x209 ∧ 
                          (0 : Int) ≤ x209 ∧ ∃ x212 : Int, IntKind.u64.wrap (mant * 2 ^ (min x209.toNat 64)) = x212 ∧ 
                          ∃ x215 : Int, IntKind.i64.wrap (x87 - x209) = x215 ∧ 
                          ∃ x220 : Int, IntKind.i64.wrap (x215 - mantBits) = x220 ∧ 
                          Calls prog 224 ⟨[.int .u64 x212, .int .i64 x220, .int .i64 digits, .int .i64 prec_4, .int .u8 fmt]⟩ w34 fun e w35 => ∃ x224 : Int, ∃ x224_1 : Int, e = .returned (.tuple ⟨[.int .u64 x224, .int .i64 x224_1]⟩) ∧ 
                          ((!decide (x224 = 0)) = true →
                          ∃ f_2 : List (Addr × Value), Kept w35 f_2 ∧
                            Calls prog 119 ⟨[.int .u64 x224]⟩ w35.drew fun e w36 => ∃ x234 : Int, e = .returned (.int .i64 x234) ∧ 
                            Calls prog 223 ⟨[.slice (some (⟨w30.heap.size, 0, none⟩)) 24 24, .int .u64 x224, .int .i64 x224_1, .int .i64 x234]⟩ w36 fun e w37 => ∃ x235 : Int, ∃ x235_1 : Int, e = .returned (.tuple ⟨[.int .i64 x235, .int .i64 x235_1]⟩) ∧ 
                            Kx_10 x235 x235_1 w37) ∧ ((!decide (x224 = 0)) = false →
                          Kx_10 0 0 w35)) ∧ (decide (0 < digits) = false →
                        Kx_10 0 0 w31)) ∧ (decide (digits ≤ 18) = false →
                      Kx_5 prec_4 w30)) → Kx_9 prec_4 digits w30) →
                    (decide (fmt = 102) = true →
                    (decide (0 ≤ x87) = true →
                      ∃ x181 : Int, IntKind.i64.wrap (1 + x87) = x181 ∧ 
                        Calls prog 172 ⟨[.int .i64 x181]⟩ w7 fun e w38 => ∃ x182 : Int, e = .returned (.int .i64 x182) ∧ 
                        ∃ x183 : Int, IntKind.i64.wrap (1 + x182) = x183 ∧ 
                        ∃ x185 : Int, IntKind.i64.wrap (x183 + prec) = x185 ∧ 
                        Kx_9 prec x185 w38) ∧ (decide (0 ≤ x87) = false →
                      ∃ x187 : Int, IntKind.i64.wrap (1 + prec) = x187 ∧ 
                        ∃ x189 : Int, IntKind.i64.wrap (0 - x87) = x189 ∧ 
                        Calls prog 172 ⟨[.int .i64 x189]⟩ w7 fun e w39 => ∃ x190 : Int, e = .returned (.int .i64 x190) ∧ 
                        ∃ x191 : Int, IntKind.i64.wrap (x187 - x190) = x191 ∧ 
                        Kx_9 prec x191 w39)) ∧ (decide (fmt = 102) = false →
                    ∀ Kx_11 : Bool → World → Prop, (∀ x192 : Bool, ∀ w40,
                      ((x192 = true →
                        ∃ x196 : Int, IntKind.i64.wrap (prec + 1) = x196 ∧ 
                          Kx_9 prec x196 w40) ∧ (x192 = false →
                        ∀ Kx_12 : Bool → World → Prop, (∀ x197 : Bool, ∀ w41,
                          ((x197 = true →
                            (decide (prec = 0) = true →
                              Kx_9 1 1 w41) ∧ (decide (prec = 0) = false →
                              Kx_9 prec prec w41)) ∧ (x197 = false →
                            Kx_9 prec 1 w41)) → Kx_12 x197 w41) →
                          (decide (fmt = 103) = true →
                          Kx_12 (decide (fmt = 103)) w40) ∧ (decide (fmt = 103) = false →
                          Kx_12 (decide (fmt = 71)) w40))) → Kx_11 x192 w40) →
                      (decide (fmt = 101) = true →
                      Kx_11 (decide (fmt = 101)) w7) ∧ (decide (fmt = 101) = false →
                      Kx_11 (decide (fmt = 69)) w7))) ∧ (x173 = false →
                  Kx_5 prec w7))))) → Kx_2 x102 w7) →
          (decide (fmt = 120) = true →
          Kx_2 true w5) ∧ (decide (fmt = 120) = false →
          Kx_2 (decide (fmt = 88)) w5))) → Kx_1 exp mant w5) →
      (decide (x57 = 0) = true →
      ∃ x80 : Int, IntKind.i64.wrap (x57 + 1) = x80 ∧ 
        Kx_1 x80 x62 w1.drew) ∧ (decide (x57 = 0) = false →
      (0 : Int) ≤ mantBits ∧ ∃ x83 : Int, IntKind.u64.wrap (1 * 2 ^ (min mantBits.toNat 64)) = x83 ∧ 
        ∃ x84 : Int, bits .or .u64 x62 x83 = x84 ∧ 
        Kx_1 x57 x84 w1.drew))) → Kx b expBits mantBits bias w1) →
  (decide ((64 : Int) = 32) = true →
  ∃ x37 : Nat, ∃ w42, (convert 52 240 (.float .f64 val)).run prog w = .ok (.float .f64 x37) w42 ∧ 
    ∃ x38 : Int, ∃ w43, (callFunc 217 ⟨[.float .f64 x37]⟩).run prog w42 = .ok (.value (.int .u32 x38)) w43 ∧ 
    ∃ x39 : Int, IntKind.u64.wrap x38 = x39 ∧ 
    Kx x39 8 23 (-127) w43) ∧ (decide ((64 : Int) = 32) = false →
  (decide ((64 : Int) = 64) = true →
    ∃ x43 : Int, ∃ w44, (callFunc 218 ⟨[.float .f64 val]⟩).run prog w = .ok (.value (.int .u64 x43)) w44 ∧ 
      Kx x43 11 52 (-1023) w44) ∧ (decide ((64 : Int) = 64) = false →
    Kx 0 0 0 0 w))
def an171 : Ann :=
  .seq (.reg (.text []))
  (.seq (.reg (.text []))
  (.seq (.reg (.text []))
  (.cut [(9, .int .u64), (10, .int .i64), (11, .int .i64), (12, .int .i64)] [0, 2, 3] (.block (.seq (.reg (.text []))
  (.cond 63 64 (.seq (.reg (.text [.p .n, .p (.sh [.float]), .p (.sh [.int .u32])]))
  (.seq (.reg (.text []))
  (.seq (.reg (.text []))
  (.reg (.text []))))) (.seq (.reg (.text []))
  (.cond 65 66 (.seq (.reg (.text [.p .n, .p (.sh [.int .u64])]))
  (.seq (.reg (.text []))
  (.seq (.reg (.text []))
  (.reg (.text []))))) .leaf)))))
  (.seq (.reg (.text []))
  (.seq (.reg (.loads (.take 0 (.p .n) (.take 1 (.p .n) (.take 2 (.p .n) (.take 3 (.p .n) (.take 4 (.p .n) (.take 5 (.p .n) (.take 6 (.p .n) (.take 7 (.p .n) (.take 8 (.p .n) .done)))))))))))
  (.seq (.reg (.text []))
  (.seq (.seq (.reg (.text []))
  (.cond 1 2 (.seq (.seq (.reg (.text []))
  (.cond 3 4 (.seq (.reg (.text [.p .n, .p (.sh [.slice])]))
  .leaf) .leaf))
  (.seq (.seq (.reg (.text []))
  (.cond 5 6 (.seq (.reg (.text [.p .n, .p (.sh [.slice])]))
  .leaf) .leaf))
  (.seq (.reg (.text [.p .n, .p (.sh [.slice])]))
  .leaf))) .leaf))
  (.cut [(14, .int .i64), (15, .int .u64)] [0, 2, 3, 11, 12, 13] (.seq (.reg (.text []))
  (.cond 61 62 (.reg (.text [])) (.reg (.text []))))
  (.seq (.reg (.text []))
  (.seq (.seq (.reg (.text []))
  (.cond 7 8 (.seq (.reg (.text [.p .n, .p .n, .p .n, .p .n, .p .n, .p .n, .p (.sh [.slice])]))
  .leaf) .leaf))
  (.seq (.cut [(102, .bool)] [0, 2, 3, 11, 13, 14, 15] (.reg (.text [.p .n, .p .n, .p .n, .gs .n 59 60]))
  (.cond 9 10 (.seq (.reg (.text [.p .n, .p .n, .p .n, .p .n, .p .n, .p .n, .p .n, .p (.sh [.slice])]))
  .leaf) .leaf))
  (.seq (.seq (.reg (.text []))
  (.cond 11 12 (.seq (.reg (.text [.p .n, .p .n, .p .n, .p .n, .p .n, .p .n, .p (.sh [.slice])]))
  .leaf) .leaf))
  (.seq (.seq (.reg (.text []))
  (.cond 13 14 (.seq (.reg (.text []))
  (.seq (.reg (.text [.p .n, .p (.sh [.int .i64])]))
  (.seq (.reg (.text []))
  (.seq (.reg (.text []))
  (.seq (.reg (.text [.p .n, .p .n, .p .n, .p .n, .p (.sh [.int .u64, .int .i64])]))
  (.seq (.reg (.held [4, 5] (.take 0 (.p .n) (.take 1 (.p .n) (.take 2 (.p .n) (.take 3 (.p .n) (.run 4 (.p (.sh [.int .i64])) (.run 5 (.p (.sh [.int .i64, .int .i64])) (.take 6 (.p .n) (.take 7 (.p .n) (.take 8 (.p .n) (.take 9 (.p .n) (.take 10 (.p .n) .done))))) .done) .done)))))))
  (.cut [(3, .int .i64)] [0, 2, 13, 16, 22, 23] (.seq (.reg (.text []))
  (.block (.cut [(149, .bool)] [0, 2, 3, 13, 16, 22, 23, 148] (.seq (.reg (.text []))
  (.cond 23 24 .leaf (.reg (.text []))))
  (.cond 15 16 (.reg (.text [])) (.seq (.reg (.text []))
  (.cond 17 18 (.reg (.text [])) (.seq (.seq (.reg (.text []))
  (.cond 19 20 .leaf (.reg (.text []))))
  (.cond 21 22 (.reg (.text [])) .leaf))))))))
  (.seq (.reg (.text [.p .n, .p .n, .p .n, .p .n, .p .n, .p .n, .p .n, .p (.sh [.slice])]))
  .leaf)))))))) .leaf))
  (.cut [(3, .int .i64)] [0, 2, 11, 13, 14, 15] (.seq (.reg (.text [.p (.sh [.bool])]))
  (.cond 37 38 (.seq (.reg (.text []))
  (.cut [(3, .int .i64), (24, .int .i64)] [0, 2, 11, 13, 14, 15] (.seq (.reg (.text []))
  (.block (.seq (.reg (.text []))
  (.cond 45 46 (.seq (.reg (.text []))
  (.cond 47 48 (.reg (.text [.p .n, .p .n, .p (.sh [.int .i64])])) (.reg (.text [.p .n, .p .n, .p .n, .p .n, .p (.sh [.int .i64])])))) (.cut [(192, .bool)] [0, 2, 3, 11, 13, 14, 15, 24, 175] (.seq (.reg (.text []))
  (.cond 57 58 .leaf (.reg (.text []))))
  (.cond 49 50 (.reg (.text [])) (.cut [(197, .bool)] [0, 2, 3, 11, 13, 14, 15] (.seq (.reg (.text []))
  (.cond 55 56 .leaf (.reg (.text []))))
  (.cond 51 52 (.seq (.seq (.reg (.text []))
  (.cond 53 54 (.reg (.text [])) .leaf))
  (.reg (.text []))) (.reg (.text []))))))))))
  (.seq (.reg (.text []))
  (.cond 39 40 (.seq (.reg (.text []))
  (.seq (.reg (.text []))
  (.cut [(26, .int .i64), (27, .int .i64)] [0, 2, 3, 13, 25] (.seq (.reg (.text []))
  (.cond 41 42 (.seq (.reg (.text [.p .n, .p (.sh [.int .i64])]))
  (.seq (.reg (.text []))
  (.seq (.reg (.text []))
  (.seq (.reg (.text [.p .n, .p .n, .p .n, .p .n, .p .n, .p .n, .p .n, .p (.sh [.int .u64, .int .i64])]))
  (.seq (.reg (.text []))
  (.cond 43 44 (.reg (.held [4, 5] (.take 0 (.p .n) (.take 1 (.p .n) (.take 2 (.p .n) (.take 3 (.p .n) (.run 4 (.p (.sh [.int .i64])) (.run 5 (.p (.sh [.int .i64, .int .i64])) (.take 6 (.p .n) (.take 7 (.p .n) (.take 8 (.p .n) (.take 9 (.p .n) (.take 10 (.p .n) .done))))) .done) .done))))))) .leaf)))))) .leaf))
  (.seq (.reg (.text [.p .n, .p .n, .p .n, .p .n, .p .n, .p .n, .p .n, .p (.sh [.slice])]))
  .leaf)))) .leaf)))) .leaf))
  (.seq (.reg (.text []))
  (.seq (.reg (.text [.p .n, .p .n, .p (.sh [])]))
  (.seq (.reg (.text [.p .n, .p .n, .p .n, .p .n, .p (.sh [])]))
  (.cut [(3, .int .i64)] [0, 2, 13, 33] (.seq (.reg (.text []))
  (.block (.cut [(256, .bool)] [0, 2, 3, 13, 33, 255] (.seq (.reg (.text []))
  (.cond 35 36 .leaf (.reg (.text []))))
  (.cond 25 26 (.reg (.text [.p .n, .p .n, .p .n, .p (.sh [])])) (.seq (.reg (.text []))
  (.cond 27 28 (.reg (.text [.p .n, .p .n, .p .n, .p .n, .p (.sh [.int .i64]), .p .n, .p .n, .p (.sh [])])) (.cut [(273, .bool)] [0, 2, 3, 13, 33] (.seq (.reg (.text []))
  (.cond 33 34 .leaf (.reg (.text []))))
  (.cond 29 30 (.seq (.seq (.reg (.text []))
  (.cond 31 32 (.reg (.text [])) .leaf))
  (.reg (.text [.p .n, .p .n, .p (.sh [])]))) .leaf))))))))
  (.seq (.reg (.held [16] (.take 0 (.p .n) (.take 1 (.p .n) (.take 2 (.p .n) (.take 3 (.p .n) (.take 4 (.p .n) (.take 5 (.p .n) (.take 6 (.p .n) (.take 7 (.p .n) (.take 8 (.p .n) (.take 9 (.p (.sh [.int .i64])) (.take 10 (.p .n) (.take 11 (.p .n) (.take 12 (.p .n) (.take 13 (.p (.sh [.int .i64])) (.take 14 (.p .n) (.take 15 (.p .n) (.run 16 (.p (.sh [.slice])) (.take 17 (.p .n) .done) .done)))))))))))))))))))
  .leaf)))))))))))))))))))
theorem vcE171 (dst : Option Addr) (dst_n dst_c : Nat) (val : Nat) (fmt : Int) (prec : Int) (w : World) (R : Value → World → Prop) : vcFn prog f171 an171 [.slice dst dst_n dst_c, .float .f64 val, .int .u8 fmt, .int .i64 prec] w R = VC171 dst dst_n dst_c val fmt prec w R := by kernel_rfl
theorem c171 (dst : Option Addr) (dst_n dst_c : Nat) (val : Nat) (fmt : Int) (prec : Int) (w : World) (R : Value → World → Prop) (hvc : VC171 dst dst_n dst_c val fmt prec w R) : Calls prog 171 ⟨[.slice dst dst_n dst_c, .float .f64 val, .int .u8 fmt, .int .i64 prec]⟩ w fun e w' => ∃ v, e = .returned v ∧ R v w' :=
  vc_calls mixed (fn := f171) (ann := an171) (by kernel_rfl) ((vcE171 dst dst_n dst_c val fmt prec w R).symm ▸ hvc)

/- F228: strconv.shortFloat[float64] -/
def VC228 (m : Int) (ex : Int) (w : World) (R : Value → World → Prop) : Prop :=
  ∀ Kx : Int → Int → World → Prop, (∀ mantBits : Int, ∀ minExp : Int, ∀ w1,
  (∃ x21 : Int, IntKind.i64.wrap (63 - mantBits) = x21 ∧ 
    ∀ Kx_1 : Int → Int → Int → Int → World → Prop, (∀ p : Int, ∀ min : Int, ∀ max : Int, ∀ odd : Int, ∀ w2,
    (∀ w3, w3 = w2.alloc (.cells ⟨[.int .u64 0, .int .u64 0, .int .i64 0]⟩ 331) → 
      Calls prog 259 ⟨[.int .i64 p]⟩ w3 fun e w4 => ∃ x100 : Int, e = .returned (.int .i64 x100) ∧ 
      Calls prog 258 ⟨[.pointer (some (⟨w2.heap.size, 0, none⟩)), .int .i64 ex, .int .i64 p, .int .i64 x100]⟩ w4 fun e w5 => e = .returned (.tuple ⟨[]⟩) ∧ 
      Calls prog 260 ⟨[.int .u64 min, .pointer (some (⟨w2.heap.size, 0, none⟩))]⟩ w5 fun e w6 => ∃ x103 : Int, e = .returned (.int .u64 x103) ∧ 
      Calls prog 261 ⟨[.int .u64 x103, .int .i64 odd]⟩ w6 fun e w7 => ∃ x105 : Int, e = .returned (.int .u64 x105) ∧ 
      Calls prog 262 ⟨[.int .u64 x105]⟩ w7 fun e w8 => ∃ x106 : Int, e = .returned (.int .u64 x106) ∧ 
      Calls prog 260 ⟨[.int .u64 max, .pointer (some (⟨w2.heap.size, 0, none⟩))]⟩ w8 fun e w9 => ∃ x108 : Int, e = .returned (.int .u64 x108) ∧ 
      ∃ x110 : Int, IntKind.i64.wrap (0 - odd) = x110 ∧ 
      Calls prog 261 ⟨[.int .u64 x108, .int .i64 x110]⟩ w9 fun e w10 => ∃ x111 : Int, e = .returned (.int .u64 x111) ∧ 
      Calls prog 263 ⟨[.int .u64 x111]⟩ w10 fun e w11 => ∃ x112 : Int, e = .returned (.int .u64 x112) ∧ 
      (10 : Int) ≠ 0 ∧ ∃ x114 : Int, IntKind.u64.wrap (Int.tdiv x112 10) = x114 ∧ 
      ∃ x116 : Int, IntKind.u64.wrap (x114 * 10) = x116 ∧ 
      (decide (x106 ≤ x116) = true →
      ∃ x121 : Int, IntKind.i64.wrap (p - 1) = x121 ∧ 
        ∃ x122 : Int, IntKind.i64.wrap (0 - x121) = x122 ∧ 
        R (.tuple ⟨[.int .u64 x114, .int .i64 x122]⟩) w11) ∧ (decide (x106 ≤ x116) = false →
      (decide (x106 < x112) = true →
        Calls prog 260 ⟨[.int .u64 m, .pointer (some (⟨w2.heap.size, 0, none⟩))]⟩ w11 fun e w12 => ∃ x128 : Int, e = .returned (.int .u64 x128) ∧ 
          Calls prog 264 ⟨[.int .u64 x128]⟩ w12 fun e w13 => ∃ x129 : Int, e = .returned (.int .u64 x129) ∧ 
          ∃ x132 : Int, IntKind.i64.wrap (0 - p) = x132 ∧ 
          R (.tuple ⟨[.int .u64 x129, .int .i64 x132]⟩) w13) ∧ (decide (x106 < x112) = false →
        ∃ x132_1 : Int, IntKind.i64.wrap (0 - p) = x132_1 ∧ 
          R (.tuple ⟨[.int .u64 x106, .int .i64 x132_1]⟩) w11))) → Kx_1 p min max odd w2) →
    ∀ Kx_2 : Bool → World → Prop, (∀ x28 : Bool, ∀ w14,
    ((x28 = true →
      ∃ x31 : Int, IntKind.i64.wrap (ex + x21) = x31 ∧ 
        Calls prog 257 ⟨[.int .i64 x31]⟩ w14 fun e w15 => ∃ x32 : Int, e = .returned (.int .i64 x32) ∧ 
        ∃ x33 : Int, IntKind.i64.wrap (0 - x32) = x33 ∧ 
        ∃ x36 : Int, IntKind.i64.wrap (x21 - 2) = x36 ∧ 
        (0 : Int) ≤ x36 ∧ ∃ x37 : Int, IntKind.u64.wrap (1 * 2 ^ (min x36.toNat 64)) = x37 ∧ 
        ∃ x38 : Int, IntKind.u64.wrap (m - x37) = x38 ∧ 
        ∃ x41 : Int, IntKind.i64.wrap (x21 - 1) = x41 ∧ 
        (0 : Int) ≤ x41 ∧ ∃ x42 : Int, IntKind.u64.wrap (1 * 2 ^ (min x41.toNat 64)) = x42 ∧ 
        ∃ x43 : Int, IntKind.u64.wrap (m + x42) = x43 ∧ 
        (0 : Int) ≤ x21 ∧ ∃ x46 : Int, Int.fdiv m (2 ^ (min x21.toNat 64)) = x46 ∧ 
        ∃ x47 : Int, IntKind.i64.wrap x46 = x47 ∧ 
        ∃ x48 : Int, bits .and .i64 x47 1 = x48 ∧ 
        Kx_1 x33 x38 x43 x48 w15) ∧ (x28 = false →
      (decide (minExp ≤ ex) = true →
        ∃ x54 : Int, IntKind.i64.wrap (ex + x21) = x54 ∧ 
          Calls prog 172 ⟨[.int .i64 x54]⟩ w14 fun e w16 => ∃ x55 : Int, e = .returned (.int .i64 x55) ∧ 
          ∃ x56 : Int, IntKind.i64.wrap (0 - x55) = x56 ∧ 
          ∃ x59 : Int, IntKind.i64.wrap (x21 - 1) = x59 ∧ 
          (0 : Int) ≤ x59 ∧ ∃ x60 : Int, IntKind.u64.wrap (1 * 2 ^ (min x59.toNat 64)) = x60 ∧ 
          ∃ x61 : Int, IntKind.u64.wrap (m - x60) = x61 ∧ 
          ∃ x64 : Int, IntKind.i64.wrap (x21 - 1) = x64 ∧ 
          (0 : Int) ≤ x64 ∧ ∃ x65 : Int, IntKind.u64.wrap (1 * 2 ^ (min x64.toNat 64)) = x65 ∧ 
          ∃ x66 : Int, IntKind.u64.wrap (m + x65) = x66 ∧ 
          (0 : Int) ≤ x21 ∧ ∃ x69 : Int, Int.fdiv m (2 ^ (min x21.toNat 64)) = x69 ∧ 
          ∃ x70 : Int, IntKind.i64.wrap x69 = x70 ∧ 
          ∃ x71 : Int, bits .and .i64 x70 1 = x71 ∧ 
          Kx_1 x56 x61 x66 x71 w16) ∧ (decide (minExp ≤ ex) = false →
        ∃ x75 : Int, IntKind.i64.wrap (minExp - ex) = x75 ∧ 
          ∃ x76 : Int, IntKind.i64.wrap (x21 + x75) = x76 ∧ 
          ∃ x79 : Int, IntKind.i64.wrap (ex + x76) = x79 ∧ 
          Calls prog 172 ⟨[.int .i64 x79]⟩ w14 fun e w17 => ∃ x80 : Int, e = .returned (.int .i64 x80) ∧ 
          ∃ x81 : Int, IntKind.i64.wrap (0 - x80) = x81 ∧ 
          ∃ x84 : Int, IntKind.i64.wrap (x76 - 1) = x84 ∧ 
          (0 : Int) ≤ x84 ∧ ∃ x85 : Int, IntKind.u64.wrap (1 * 2 ^ (min x84.toNat 64)) = x85 ∧ 
          ∃ x86 : Int, IntKind.u64.wrap (m - x85) = x86 ∧ 
          ∃ x89 : Int, IntKind.i64.wrap (x76 - 1) = x89 ∧ 
          (0 : Int) ≤ x89 ∧ ∃ x90 : Int, IntKind.u64.wrap (1 * 2 ^ (min x89.toNat 64)) = x90 ∧ 
          ∃ x91 : Int, IntKind.u64.wrap (m + x90) = x91 ∧ 
          (0 : Int) ≤ x76 ∧ ∃ x94 : Int, Int.fdiv m (2 ^ (min x76.toNat 64)) = x94 ∧ 
          ∃ x95 : Int, IntKind.i64.wrap x94 = x95 ∧ 
          ∃ x96 : Int, bits .and .i64 x95 1 = x96 ∧ 
          Kx_1 x81 x86 x91 x96 w17))) → Kx_2 x28 w14) →
    (decide (m = 9223372036854775808) = true →
    Kx_2 (decide (minExp < ex)) w1) ∧ (decide (m = 9223372036854775808) = false →
    Kx_2 false w1)) → Kx mantBits minExp w1) →
  ∃ x15 : Int, IntKind.u64.wrap (8 * 8) = x15 ∧ 
  (decide (x15 = 32) = true →
  Kx 23 (-189) w) ∧ (decide (x15 = 32) = false →
  (decide (x15 = 64) = true →
    Kx 52 (-1085) w) ∧ (decide (x15 = 64) = false →
    Kx 0 0 w))
def an228 : Ann :=
  .seq (.reg (.text []))
  (.seq (.reg (.text []))
  (.cut [(6, .int .i64), (7, .int .i64)] [0, 1] (.seq (.reg (.text []))
  (.block (.seq (.reg (.text []))
  (.cond 11 12 (.seq (.reg (.text []))
  (.reg (.text []))) (.seq (.reg (.text []))
  (.cond 13 14 (.seq (.reg (.text []))
  (.reg (.text []))) .leaf))))))
  (.seq (.reg (.text []))
  (.seq (.reg (.text []))
  (.seq (.reg (.text []))
  (.cut [(5, .int .i64), (8, .int .u64), (9, .int .u64), (10, .int .i64)] [0, 1] (.cut [(28, .bool)] [0, 1, 7, 11] (.reg (.text [.p .n, .p .n, .p .n, .gs .n 9 10]))
  (.cond 5 6 (.seq (.reg (.text [.p .n, .p .n, .p .n, .p (.sh [.int .i64])]))
  (.seq (.reg (.text []))
  (.seq (.reg (.text []))
  (.reg (.text []))))) (.seq (.reg (.text []))
  (.cond 7 8 (.seq (.reg (.text [.p .n, .p .n, .p .n, .p (.sh [.int .i64])]))
  (.seq (.reg (.text []))
  (.seq (.reg (.text []))
  (.reg (.text []))))) (.seq (.reg (.text []))
  (.seq (.reg (.text [.p .n, .p .n, .p .n, .p (.sh [.int .i64])]))
  (.seq (.reg (.text []))
  (.seq (.reg (.text []))
  (.reg (.text []))))))))))
  (.seq (.reg (.text []))
  (.seq (.reg (.text [.p .n, .p .n, .p .n, .p (.sh [.int .i64]), .p (.sh [])]))
  (.seq (.reg (.text [.p .n, .p (.sh [.int .u64]), .p .n, .p (.sh [.int .u64]), .p (.sh [.int .u64])]))
  (.seq (.reg (.text [.p .n, .p (.sh [.int .u64]), .p .n, .p .n, .p (.sh [.int .u64]), .p (.sh [.int .u64])]))
  (.seq (.seq (.reg (.text []))
  (.seq (.reg (.text []))
  (.cond 1 2 (.seq (.reg (.text []))
  .leaf) .leaf)))
  (.seq (.seq (.reg (.text []))
  (.seq (.reg (.text []))
  (.cond 3 4 (.reg (.text [.p .n, .p (.sh [.int .u64]), .p (.sh [.int .u64])])) .leaf)))
  (.seq (.reg (.text []))
  .leaf)))))))))))))
theorem vcE228 (m : Int) (ex : Int) (w : World) (R : Value → World → Prop) : vcFn prog f228 an228 [.int .u64 m, .int .i64 ex] w R = VC228 m ex w R := by kernel_rfl
theorem c228 (m : Int) (ex : Int) (w : World) (R : Value → World → Prop) (hvc : VC228 m ex w R) : Calls prog 228 ⟨[.int .u64 m, .int .i64 ex]⟩ w fun e w' => ∃ v, e = .returned v ∧ R v w' :=
  vc_calls mixed (fn := f228) (ann := an228) (by kernel_rfl) ((vcE228 m ex w R).symm ▸ hvc)

/- F258: strconv.prescale -/
def VC258 (pre : Addr) (ex : Int) (p : Int) (lp : Int) (w : World) (R : Value → World → Prop) : Prop :=
  ∃ x10 : Int, IntKind.i64.wrap (p - (-348)) = x10 ∧ 
  ((0 : Int) ≤ x10 ∧ x10 < (696 : Int)) ∧ 
  ∃ x13 : Int, w.cell? ((⟨15, 0, none⟩ : Addr).add (x10.toNat * 2)) = some (.int .u64 x13) ∧ 
  CanStore w pre (.int .u64 x13) ∧ ∀ w1, w1 = w.setCell pre (.int .u64 x13) → 
  ∃ x18 : Int, IntKind.i64.wrap (p - (-348)) = x18 ∧ 
  ((0 : Int) ≤ x18 ∧ x18 < (696 : Int)) ∧ 
  ∃ x21 : Int, w1.cell? (((⟨15, 0, none⟩ : Addr).add (x18.toNat * 2)).add 1) = some (.int .u64 x21) ∧ 
  CanStore w1 (pre.add 1) (.int .u64 x21) ∧ ∀ w2, w2 = w1.setCell (pre.add 1) (.int .u64 x21) → 
  ∃ x27 : Int, IntKind.i64.wrap (ex + lp) = x27 ∧ 
  ∃ x28 : Int, IntKind.i64.wrap (x27 + 3) = x28 ∧ 
  ∃ x29 : Int, IntKind.i64.wrap (0 - x28) = x29 ∧ 
  CanStore w2 (pre.add 2) (.int .i64 x29) ∧ ∀ w3, w3 = w2.setCell (pre.add 2) (.int .i64 x29) → 
  R (.tuple ⟨[]⟩) w3
def an258 : Ann :=
  .seq (.reg (.text [.p .n, .p .n, .p .n, .p .n, .p .n, .p (.sh [.int .u64])]))
  (.seq (.reg (.text [.p .n, .p .n, .p .n, .p .n, .p .n, .p (.sh [.int .u64])]))
  (.reg (.text [])))
theorem vcE258 (pre : Addr) (ex : Int) (p : Int) (lp : Int) (w : World) (R : Value → World → Prop) : vcFn prog f258 an258 [.pointer (some pre), .int .i64 ex, .int .i64 p, .int .i64 lp] w R = VC258 pre ex p lp w R := by kernel_rfl
theorem c258 (pre : Addr) (ex : Int) (p : Int) (lp : Int) (w : World) (R : Value → World → Prop) (hvc : VC258 pre ex p lp w R) : Calls prog 258 ⟨[.pointer (some pre), .int .i64 ex, .int .i64 p, .int .i64 lp]⟩ w fun e w' => ∃ v, e = .returned v ∧ R v w' :=
  vc_calls mixed (fn := f258) (ann := an258) (by kernel_rfl) ((vcE258 pre ex p lp w R).symm ▸ hvc)

/- F260: strconv.uscale -/
def VC260 (x : Int) (c : Addr) (w : World) (R : Value → World → Prop) : Prop :=
  ∃ x15 : Int, w.cell? c = some (.int .u64 x15) ∧ 
  Calls prog 281 ⟨[.int .u64 x, .int .u64 x15]⟩ w fun e w1 => ∃ x16 : Int, ∃ x16_1 : Int, e = .returned (.tuple ⟨[.int .u64 x16, .int .u64 x16_1]⟩) ∧ 
  ∃ x22 : Int, w1.cell? (c.add 2) = some (.int .i64 x22) ∧ 
  ∃ x23 : Int, bits .and .i64 x22 63 = x23 ∧ 
  (0 : Int) ≤ x23 ∧ ∃ x26 : Int, Int.fdiv x16 (2 ^ (min x23.toNat 64)) = x26 ∧ 
  (0 : Int) ≤ x23 ∧ ∃ x28 : Int, IntKind.u64.wrap (x26 * 2 ^ (min x23.toNat 64)) = x28 ∧ 
  ((!decide (x28 = x16)) = true →
  (0 : Int) ≤ x23 ∧ ∃ x33 : Int, Int.fdiv x16 (2 ^ (min x23.toNat 64)) = x33 ∧ 
    ∃ x34 : Int, bits .or .u64 x33 1 = x34 ∧ 
    R (.int .u64 x34) w1) ∧ ((!decide (x28 = x16)) = false →
  ∃ x40 : Int, w1.cell? (c.add 1) = some (.int .u64 x40) ∧ 
    Calls prog 281 ⟨[.int .u64 x, .int .u64 x40]⟩ w1 fun e w2 => ∃ x41 : Int, ∃ x41_1 : Int, e = .returned (.tuple ⟨[.int .u64 x41, .int .u64 x41_1]⟩) ∧ 
    Calls prog 282 ⟨[.bool (decide (x16_1 < x41))]⟩ w2 fun e w3 => ∃ x48 : Int, e = .returned (.int .u64 x48) ∧ 
    ∃ x49 : Int, IntKind.u64.wrap (x16 - x48) = x49 ∧ 
    ∃ f : List (Addr × Value), Kept w3 f ∧
    (0 : Int) ≤ x23 ∧ ∃ x52 : Int, Int.fdiv x49 (2 ^ (min x23.toNat 64)) = x52 ∧ 
    ∃ x55 : Int, IntKind.u64.wrap (x16_1 - x41) = x55 ∧ 
    Calls prog 282 ⟨[.bool (decide (1 < x55))]⟩ w3.drew fun e w4 => ∃ x57 : Int, e = .returned (.int .u64 x57) ∧ 
    ∃ x58 : Int, bits .or .u64 x52 x57 = x58 ∧ 
    R (.int .u64 x58) w4)
def an260 : Ann :=
  .seq (.reg (.text []))
  (.seq (.reg (.text [.p .n, .p .n, .p .n, .p .n, .p (.sh [.int .u64]), .p (.sh [.int .u64, .int .u64])]))
  (.seq (.reg (.text [.p .n, .p .n, .p .n, .p (.sh [.int .i64])]))
  (.seq (.seq (.reg (.text []))
  (.cond 1 2 (.seq (.reg (.text []))
  .leaf) .leaf))
  (.seq (.reg (.text [.p .n, .p .n, .p .n, .p .n, .p (.sh [.int .u64]), .p (.sh [.int .u64, .int .u64])]))
  (.seq (.reg (.text [.p .n, .p .n, .p .n, .p .n, .p (.sh [.int .u64])]))
  (.seq (.reg (.held [7] (.take 0 (.p .n) (.take 1 (.p .n) (.take 2 (.p .n) (.take 3 (.p .n) (.take 4 (.p .n) (.take 5 (.p .n) (.take 6 (.p .n) (.run 7 (.p (.sh [.int .u64])) (.take 8 (.p .n) (.take 9 (.p .n) .done)) .done))))))))))
  .leaf))))))
theorem vcE260 (x : Int) (c : Addr) (w : World) (R : Value → World → Prop) : vcFn prog f260 an260 [.int .u64 x, .pointer (some c)] w R = VC260 x c w R := by kernel_rfl
theorem c260 (x : Int) (c : Addr) (w : World) (R : Value → World → Prop) (hvc : VC260 x c w R) : Calls prog 260 ⟨[.int .u64 x, .pointer (some c)]⟩ w fun e w' => ∃ v, e = .returned v ∧ R v w' :=
  vc_calls mixed (fn := f260) (ann := an260) (by kernel_rfl) ((vcE260 x c w R).symm ▸ hvc)

/- F261: strconv.unrounded).nudge -/
def VC261 (u : Int) (δ : Int) (w : World) (R : Value → World → Prop) : Prop :=
  ∃ x7 : Int, IntKind.u64.wrap δ = x7 ∧ 
  ∃ x8 : Int, IntKind.u64.wrap (u + x7) = x8 ∧ 
  R (.int .u64 x8) w
def an261 : Ann :=
  .seq (.reg (.text []))
  (.seq (.reg (.text []))
  .leaf)
theorem vcE261 (u : Int) (δ : Int) (w : World) (R : Value → World → Prop) : vcFn prog f261 an261 [.int .u64 u, .int .i64 δ] w R = VC261 u δ w R := by kernel_rfl
theorem c261 (u : Int) (δ : Int) (w : World) (R : Value → World → Prop) (hvc : VC261 u δ w R) : Calls prog 261 ⟨[.int .u64 u, .int .i64 δ]⟩ w fun e w' => ∃ v, e = .returned v ∧ R v w' :=
  vc_calls mixed (fn := f261) (ann := an261) (by kernel_rfl) ((vcE261 u δ w R).symm ▸ hvc)

/- F262: strconv.unrounded).ceil -/
def VC262 (u : Int) (w : World) (R : Value → World → Prop) : Prop :=
  ∃ x4 : Int, IntKind.u64.wrap (u + 3) = x4 ∧ 
  (0 : Int) ≤ 2 ∧ ∃ x5 : Int, Int.fdiv x4 (2 ^ 2) = x5 ∧ 
  R (.int .u64 x5) w
def an262 : Ann :=
  .seq (.reg (.text []))
  (.seq (.reg (.text []))
  .leaf)
theorem vcE262 (u : Int) (w : World) (R : Value → World → Prop) : vcFn prog f262 an262 [.int .u64 u] w R = VC262 u w R := by kernel_rfl
theorem c262 (u : Int) (w : World) (R : Value → World → Prop) (hvc : VC262 u w R) : Calls prog 262 ⟨[.int .u64 u]⟩ w fun e w' => ∃ v, e = .returned v ∧ R v w' :=
  vc_calls mixed (fn := f262) (ann := an262) (by kernel_rfl) ((vcE262 u w R).symm ▸ hvc)

/- F263: strconv.unrounded).floor -/
def VC263 (u : Int) (w : World) (R : Value → World → Prop) : Prop :=
  ∃ x4 : Int, IntKind.u64.wrap (u + 0) = x4 ∧ 
  (0 : Int) ≤ 2 ∧ ∃ x5 : Int, Int.fdiv x4 (2 ^ 2) = x5 ∧ 
  R (.int .u64 x5) w
def an263 : Ann :=
  .seq (.reg (.text []))
  (.seq (.reg (.text []))
  .leaf)
theorem vcE263 (u : Int) (w : World) (R : Value → World → Prop) : vcFn prog f263 an263 [.int .u64 u] w R = VC263 u w R := by kernel_rfl
theorem c263 (u : Int) (w : World) (R : Value → World → Prop) (hvc : VC263 u w R) : Calls prog 263 ⟨[.int .u64 u]⟩ w fun e w' => ∃ v, e = .returned v ∧ R v w' :=
  vc_calls mixed (fn := f263) (ann := an263) (by kernel_rfl) ((vcE263 u w R).symm ▸ hvc)

/- F264: strconv.unrounded).round -/
def VC264 (u : Int) (w : World) (R : Value → World → Prop) : Prop :=
  ∃ x4 : Int, IntKind.u64.wrap (u + 1) = x4 ∧ 
  (0 : Int) ≤ 2 ∧ ∃ x6 : Int, Int.fdiv u (2 ^ 2) = x6 ∧ 
  ∃ x7 : Int, bits .and .u64 x6 1 = x7 ∧ 
  ∃ x8 : Int, IntKind.u64.wrap (x4 + x7) = x8 ∧ 
  (0 : Int) ≤ 2 ∧ ∃ x9 : Int, Int.fdiv x8 (2 ^ 2) = x9 ∧ 
  R (.int .u64 x9) w
def an264 : Ann :=
  .seq (.reg (.text []))
  (.seq (.reg (.text []))
  .leaf)
theorem vcE264 (u : Int) (w : World) (R : Value → World → Prop) : vcFn prog f264 an264 [.int .u64 u] w R = VC264 u w R := by kernel_rfl
theorem c264 (u : Int) (w : World) (R : Value → World → Prop) (hvc : VC264 u w R) : Calls prog 264 ⟨[.int .u64 u]⟩ w fun e w' => ∃ v, e = .returned v ∧ R v w' :=
  vc_calls mixed (fn := f264) (ann := an264) (by kernel_rfl) ((vcE264 u w R).symm ▸ hvc)

/- F257: strconv.skewed -/
def VC257 (ex : Int) (w : World) (R : Value → World → Prop) : Prop :=
  ∃ x4 : Int, IntKind.i64.wrap (ex * 631305) = x4 ∧ 
  ∃ x5 : Int, IntKind.i64.wrap (x4 - 261663) = x5 ∧ 
  (0 : Int) ≤ 21 ∧ ∃ x6 : Int, Int.fdiv x5 (2 ^ 21) = x6 ∧ 
  R (.int .i64 x6) w
def an257 : Ann :=
  .seq (.reg (.text []))
  (.seq (.reg (.text []))
  .leaf)
theorem vcE257 (ex : Int) (w : World) (R : Value → World → Prop) : vcFn prog f257 an257 [.int .i64 ex] w R = VC257 ex w R := by kernel_rfl
theorem c257 (ex : Int) (w : World) (R : Value → World → Prop) (hvc : VC257 ex w R) : Calls prog 257 ⟨[.int .i64 ex]⟩ w fun e w' => ∃ v, e = .returned v ∧ R v w' :=
  vc_calls mixed (fn := f257) (ann := an257) (by kernel_rfl) ((vcE257 ex w R).symm ▸ hvc)

/- F259: strconv.log2Pow10 -/
def VC259 (x : Int) (w : World) (R : Value → World → Prop) : Prop :=
  ∃ x4 : Int, IntKind.i64.wrap (x * 108853) = x4 ∧ 
  (0 : Int) ≤ 15 ∧ ∃ x5 : Int, Int.fdiv x4 (2 ^ 15) = x5 ∧ 
  R (.int .i64 x5) w
def an259 : Ann :=
  .seq (.reg (.text []))
  (.seq (.reg (.text []))
  .leaf)
theorem vcE259 (x : Int) (w : World) (R : Value → World → Prop) : vcFn prog f259 an259 [.int .i64 x] w R = VC259 x w R := by kernel_rfl
theorem c259 (x : Int) (w : World) (R : Value → World → Prop) (hvc : VC259 x w R) : Calls prog 259 ⟨[.int .i64 x]⟩ w fun e w' => ∃ v, e = .returned v ∧ R v w' :=
  vc_calls mixed (fn := f259) (ann := an259) (by kernel_rfl) ((vcE259 x w R).symm ▸ hvc)

/- F282: strconv.bool2[uint64] -/
def VC282 (b : Bool) (w : World) (R : Value → World → Prop) : Prop :=
  (b = true →
  R (.int .u64 1) w) ∧ (b = false →
  R (.int .u64 0) w)
def an282 : Ann :=
  .seq (.reg (.text []))
  (.seq (.seq (.reg (.text []))
  (.cond 1 2 (.seq (.reg (.text []))
  .leaf) .leaf))
  (.seq (.reg (.text []))
  .leaf))
theorem vcE282 (b : Bool) (w : World) (R : Value → World → Prop) : vcFn prog f282 an282 [.bool b] w R = VC282 b w R := by kernel_rfl
theorem c282 (b : Bool) (w : World) (R : Value → World → Prop) (hvc : VC282 b w R) : Calls prog 282 ⟨[.bool b]⟩ w fun e w' => ∃ v, e = .returned v ∧ R v w' :=
  vc_calls mixed (fn := f282) (ann := an282) (by kernel_rfl) ((vcE282 b w R).symm ▸ hvc)

/- F223: strconv.setDigits -/
def VC223 (s : Option Addr) (s_n s_c : Nat) (d : Int) (p : Int) (nd : Int) (w : World) (R : Value → World → Prop) : Prop :=
  (decide (nd ≤ (s_n : Int)) = true →
  ((0 : Int) ≤ nd ∧ nd ≤ (s_c : Int)) ∧ 
    Calls prog 120 ⟨[.slice s nd.toNat s_c, .int .u64 d]⟩ w fun e w1 => e = .returned (.tuple ⟨[]⟩) ∧ 
    ∃ x21 : Int, IntKind.i64.wrap (nd + p) = x21 ∧ 
    ∃ Ix : Nat → Int → World → Prop, (∃ m_2, Ix m_2 nd w1) ∧
    ∀ m, ∀ nd_1 : Int, ∀ w2, Ix m nd_1 w2 →
    (decide (0 < nd_1) = true →
      ∃ x27 : Int, IntKind.i64.wrap (nd_1 - 1) = x27 ∧ 
        ((0 : Int) ≤ x27 ∧ x27 < (s_n : Int)) ∧ ∃ sa : Addr, s = some sa ∧ 
        ∃ x29 : Int, w2.cell? (sa.add (x27.toNat * 1)) = some (.int .u8 x29) ∧ 
        (decide (x29 = 48) = true →
        ∃ x33 : Int, IntKind.i64.wrap (nd_1 - 1) = x33 ∧ 
          ∃ m_1, m_1 < m ∧ Ix m_1 x33 w2) ∧ (decide (x29 = 48) = false →
        R (.tuple ⟨[.int .i64 x21, .int .i64 nd_1]⟩) w2)) ∧ (decide (0 < nd_1) = false →
      R (.tuple ⟨[.int .i64 x21, .int .i64 nd_1]⟩) w2)) ∧ (decide (nd ≤ (s_n : Int)) = false →
  R (.tuple ⟨[.int .i64 0, .int .i64 nd]⟩) w)
def an223 : Ann :=
  .seq (.reg (.text []))
  (.seq (.seq (.reg (.text []))
  (.cond 1 2 (.seq (.reg (.text [.p .n, .p .n, .p .n, .p .n, .p (.sh [])]))
  (.seq (.reg (.text []))
  (.block (.loop [(3, .int .i64)] [0, 8] (.seq (.seq (.reg (.text [.p .n, .p .n, .p .n, .gs .n 3 4, .p .n, .p .n, .on 4 (.p .n) (.p (.sh [])), .on 4 (.p .n) (.p (.sh [.int .u8]))]))
  (.on 4 (.no .leaf) (.cond 5 6 .leaf .leaf)))
  (.block (.reg (.text [])))))))) .leaf))
  (.seq (.reg (.text []))
  .leaf))
theorem vcE223 (s : Option Addr) (s_n s_c : Nat) (d : Int) (p : Int) (nd : Int) (w : World) (R : Value → World → Prop) : vcFn prog f223 an223 [.slice s s_n s_c, .int .u64 d, .int .i64 p, .int .i64 nd] w R = VC223 s s_n s_c d p nd w R := by kernel_rfl
theorem c223 (s : Option Addr) (s_n s_c : Nat) (d : Int) (p : Int) (nd : Int) (w : World) (R : Value → World → Prop) (hvc : VC223 s s_n s_c d p nd w R) : Calls prog 223 ⟨[.slice s s_n s_c, .int .u64 d, .int .i64 p, .int .i64 nd]⟩ w fun e w' => ∃ v, e = .returned v ∧ R v w' :=
  vc_calls mixed (fn := f223) (ann := an223) (by kernel_rfl) ((vcE223 s s_n s_c d p nd w R).symm ▸ hvc)

/- F221: strconv.fmtEFG -/
def VC221 (dst : Option Addr) (dst_n dst_c : Nat) (neg : Bool) (s : Option Addr) (s_n s_c : Nat) (dp : Int) (nd : Int) (prec : Int) (fmt : Int) (shortest : Bool) (w : World) (R : Value → World → Prop) : Prop :=
  ∀ Kx : Int → Int → World → Prop, (∀ prec_1 : Int, ∀ fmt_1 : Int, ∀ w1,
  (∀ Kx_1 : Bool → World → Prop, (∀ x75 : Bool, ∀ w2,
    ((x75 = true →
      ∀ Kx_2 : Option Addr → Nat → Nat → World → Prop, (∀ (dst_1 : Option Addr) (dst_1_n dst_1_c : Nat), ∀ w3,
        (∀ Kx_3 : Int → World → Prop, (∀ ch : Int, ∀ w4,
          (∀ w5, w5 = w4.alloc (.cells ⟨[.int .u8 ch]⟩ 5) → 
            ∃ (x90 : Option Addr) (x90_n x90_c : Nat), ∃ w6, BuiltinOk prog .append #[23, 23] 23 [false, false] [.slice dst_1 dst_1_n dst_1_c, .slice (some (⟨w4.heap.size, 0, none⟩)) 1 1] w5 (.slice x90 x90_n x90_c) w6 ∧ 
            ∀ Kx_4 : Option Addr → Nat → Nat → World → Prop, (∀ (dst_2 : Option Addr) (dst_2_n dst_2_c : Nat), ∀ w7,
            (∀ w8, w8 = w7.alloc (.cells ⟨[.int .u8 fmt_1]⟩ 5) → 
              ∃ (x123 : Option Addr) (x123_n x123_c : Nat), ∃ w9, BuiltinOk prog .append #[23, 23] 23 [false, false] [.slice dst_2 dst_2_n dst_2_c, .slice (some (⟨w7.heap.size, 0, none⟩)) 1 1] w8 (.slice x123 x123_n x123_c) w9 ∧ 
              ∃ x125 : Int, IntKind.i64.wrap (dp - 1) = x125 ∧ 
              ∀ Kx_5 : Int → World → Prop, (∀ exp : Int, ∀ w10,
              (∀ Kx_6 : Int → Int → World → Prop, (∀ ch_1 : Int, ∀ exp_1 : Int, ∀ w11,
                (∀ w12, w12 = w11.alloc (.cells ⟨[.int .u8 ch_1]⟩ 5) → 
                  ∃ (x135 : Option Addr) (x135_n x135_c : Nat), ∃ w13, BuiltinOk prog .append #[23, 23] 23 [false, false] [.slice x123 x123_n x123_c, .slice (some (⟨w11.heap.size, 0, none⟩)) 1 1] w12 (.slice x135 x135_n x135_c) w13 ∧ 
                  (decide (exp_1 < 10) = true →
                  ∃ x157 : Int, IntKind.u8.wrap exp_1 = x157 ∧ 
                    ∃ x158 : Int, IntKind.u8.wrap (x157 + 48) = x158 ∧ 
                    ∀ w14, w14 = w13.alloc (.cells ⟨[.int .u8 48, .int .u8 x158]⟩ 5) → 
                    ∃ (x160 : Option Addr) (x160_n x160_c : Nat), ∃ w15, BuiltinOk prog .append #[23, 23] 23 [false, false] [.slice x135 x135_n x135_c, .slice (some (⟨w13.heap.size, 0, none⟩)) 2 2] w14 (.slice x160 x160_n x160_c) w15 ∧ 
                    R (.slice x160 x160_n x160_c) w15) ∧ (decide (exp_1 < 10) = false →
                  (decide (exp_1 < 100) = true →
                    (10 : Int) ≠ 0 ∧ ∃ x166 : Int, IntKind.i64.wrap (Int.tdiv exp_1 10) = x166 ∧ 
                      ∃ x167 : Int, IntKind.u8.wrap x166 = x167 ∧ 
                      ∃ x168 : Int, IntKind.u8.wrap (x167 + 48) = x168 ∧ 
                      (10 : Int) ≠ 0 ∧ ∃ x170 : Int, Int.tmod exp_1 10 = x170 ∧ 
                      ∃ x171 : Int, IntKind.u8.wrap x170 = x171 ∧ 
                      ∃ x172 : Int, IntKind.u8.wrap (x171 + 48) = x172 ∧ 
                      ∀ w16, w16 = w13.alloc (.cells ⟨[.int .u8 x168, .int .u8 x172]⟩ 5) → 
                      ∃ (x174 : Option Addr) (x174_n x174_c : Nat), ∃ w17, BuiltinOk prog .append #[23, 23] 23 [false, false] [.slice x135 x135_n x135_c, .slice (some (⟨w13.heap.size, 0, none⟩)) 2 2] w16 (.slice x174 x174_n x174_c) w17 ∧ 
                      R (.slice x174 x174_n x174_c) w17) ∧ (decide (exp_1 < 100) = false →
                    (100 : Int) ≠ 0 ∧ ∃ x138 : Int, IntKind.i64.wrap (Int.tdiv exp_1 100) = x138 ∧ 
                      ∃ x139 : Int, IntKind.u8.wrap x138 = x139 ∧ 
                      ∃ x140 : Int, IntKind.u8.wrap (x139 + 48) = x140 ∧ 
                      (10 : Int) ≠ 0 ∧ ∃ x142 : Int, IntKind.i64.wrap (Int.tdiv exp_1 10) = x142 ∧ 
                      ∃ x143 : Int, IntKind.u8.wrap x142 = x143 ∧ 
                      (10 : Int) ≠ 0 ∧ ∃ x144 : Int, Int.tmod x143 10 = x144 ∧ 
                      ∃ x145 : Int, IntKind.u8.wrap (x144 + 48) = x145 ∧ 
                      (10 : Int) ≠ 0 ∧ ∃ x147 : Int, Int.tmod exp_1 10 = x147 ∧ 
                      ∃ x148 : Int, IntKind.u8.wrap x147 = x148 ∧ 
                      ∃ x149 : Int, IntKind.u8.wrap (x148 + 48) = x149 ∧ 
                      ∀ w18, w18 = w13.alloc (.cells ⟨[.int .u8 x140, .int .u8 x145, .int .u8 x149]⟩ 5) → 
                      ∃ (x151 : Option Addr) (x151_n x151_c : Nat), ∃ w19, BuiltinOk prog .append #[23, 23] 23 [false, false] [.slice x135 x135_n x135_c, .slice (some (⟨w13.heap.size, 0, none⟩)) 3 3] w18 (.slice x151 x151_n x151_c) w19 ∧ 
                      R (.slice x151 x151_n x151_c) w19))) → Kx_6 ch_1 exp_1 w11) →
                (decide (exp < 0) = true →
                ∃ x131 : Int, IntKind.i64.wrap (0 - exp) = x131 ∧ 
                  Kx_6 45 x131 w10) ∧ (decide (exp < 0) = false →
                Kx_6 43 exp w10)) → Kx_5 exp w10) →
              (decide (nd = 0) = true →
              Kx_5 0 w9) ∧ (decide (nd = 0) = false →
              Kx_5 x125 w9)) → Kx_4 dst_2 dst_2_n dst_2_c w7) →
            (decide (0 < prec_1) = true →
            ∀ w20, w20 = w6.alloc (.cells ⟨[.int .u8 46]⟩ 5) → 
              ∃ (x95 : Option Addr) (x95_n x95_c : Nat), ∃ w21, BuiltinOk prog .append #[23, 23] 23 [false, false] [.slice x90 x90_n x90_c, .slice (some (⟨w6.heap.size, 0, none⟩)) 1 1] w20 (.slice x95 x95_n x95_c) w21 ∧ 
              ∃ x98 : Int, IntKind.i64.wrap (prec_1 + 1) = x98 ∧ 
              ∃ x99 : Int, (if x98 < nd then x98 else nd) = x99 ∧ 
              ∀ Kx_7 : Option Addr → Nat → Nat → Int → World → Prop, (∀ (dst_3 : Option Addr) (dst_3_n dst_3_c : Nat), ∀ i : Int, ∀ w22,
              (∃ x111 : Int, IntKind.i64.wrap (prec_1 + 1) = x111 ∧ 
                ∃ x113 : Int, IntKind.i64.wrap (x111 - i) = x113 ∧ 
                ∃ Ix : Nat → Option Addr → Nat → Nat → Int → World → Prop, (∃ m_2, Ix m_2 dst_3 dst_3_n dst_3_c 0 w22) ∧
                ∀ m, ∀ (dst_4 : Option Addr) (dst_4_n dst_4_c : Nat), ∀ x114 : Int, ∀ w23, Ix m dst_4 dst_4_n dst_4_c x114 w23 →
                (decide (x114 < x113) = true →
                  ∀ w24, w24 = w23.alloc (.cells ⟨[.int .u8 48]⟩ 5) → 
                    ∃ (x118 : Option Addr) (x118_n x118_c : Nat), ∃ w25, BuiltinOk prog .append #[23, 23] 23 [false, false] [.slice dst_4 dst_4_n dst_4_c, .slice (some (⟨w23.heap.size, 0, none⟩)) 1 1] w24 (.slice x118 x118_n x118_c) w25 ∧ 
                    ∃ x119 : Int, IntKind.i64.wrap (x114 + 1) = x119 ∧ 
                    ∃ m_1, m_1 < m ∧ Ix m_1 x118 x118_n x118_c x119 w25) ∧ (decide (x114 < x113) = false →
                  Kx_4 dst_4 dst_4_n dst_4_c w23)) → Kx_7 dst_3 dst_3_n dst_3_c i w22) →
              (decide (1 < x99) = true →
              ((0 : Int) ≤ 1 ∧ (1 : Int) ≤ x99 ∧ x99 ≤ (s_c : Int)) ∧ 
                ∃ (x108 : Option Addr) (x108_n x108_c : Nat), ∃ w26, BuiltinOk prog .append #[23, 23] 23 [false, false] [.slice x95 x95_n x95_c, .slice (slAddr s s_c 1 1) (x99.toNat - 1) (s_c - 1)] w21 (.slice x108 x108_n x108_c) w26 ∧ 
                Kx_7 x108 x108_n x108_c x99 w26) ∧ (decide (1 < x99) = false →
              Kx_7 x95 x95_n x95_c 1 w21)) ∧ (decide (0 < prec_1) = false →
            Kx_4 x90 x90_n x90_c w6)) → Kx_3 ch w4) →
          ((!decide (nd = 0)) = true →
          ((0 : Int) ≤ 0 ∧ 0 < (s_n : Int)) ∧ ∃ sa : Addr, s = some sa ∧ 
            ∃ x86 : Int, w3.cell? sa = some (.int .u8 x86) ∧ 
            Kx_3 x86 w3) ∧ ((!decide (nd = 0)) = false →
          Kx_3 48 w3)) → Kx_2 dst_1 dst_1_n dst_1_c w3) →
        (neg = true →
        ∀ w27, w27 = w2.alloc (.cells ⟨[.int .u8 45]⟩ 5) → 
          ∃ (x81 : Option Addr) (x81_n x81_c : Nat), ∃ w28, BuiltinOk prog .append #[23, 23] 23 [false, false] [.slice dst dst_n dst_c, .slice (some (⟨w2.heap.size, 0, none⟩)) 1 1] w27 (.slice x81 x81_n x81_c) w28 ∧ 
          Kx_2 x81 x81_n x81_c w28) ∧ (neg = false →
        Kx_2 dst dst_n dst_c w2)) ∧ (x75 = false →
      (decide (fmt_1 = 102) = true →
        ∀ Kx_8 : Option Addr → Nat → Nat → World → Prop, (∀ (dst_5 : Option Addr) (dst_5_n dst_5_c : Nat), ∀ w29,
          (∀ Kx_9 : Option Addr → Nat → Nat → World → Prop, (∀ (dst_6 : Option Addr) (dst_6_n dst_6_c : Nat), ∀ w30,
            ((decide (0 < prec_1) = true →
              ∀ w31, w31 = w30.alloc (.cells ⟨[.int .u8 46]⟩ 5) → 
                ∃ (x216 : Option Addr) (x216_n x216_c : Nat), ∃ w32, BuiltinOk prog .append #[23, 23] 23 [false, false] [.slice dst_6 dst_6_n dst_6_c, .slice (some (⟨w30.heap.size, 0, none⟩)) 1 1] w31 (.slice x216 x216_n x216_c) w32 ∧ 
                ∃ x219 : Int, IntKind.i64.wrap (0 - dp) = x219 ∧ 
                ∃ x220 : Int, (if x219 > 0 then x219 else 0) = x220 ∧ 
                ∃ x221 : Int, (if x220 < prec_1 then x220 else prec_1) = x221 ∧ 
                ∃ x224 : Int, IntKind.i64.wrap (dp + x221) = x224 ∧ 
                ∃ x227 : Int, IntKind.i64.wrap (prec_1 - x221) = x227 ∧ 
                ∃ x230 : Int, IntKind.i64.wrap (nd - x224) = x230 ∧ 
                ∃ x231 : Int, (if x230 > 0 then x230 else 0) = x231 ∧ 
                ∃ x232 : Int, (if x231 < x227 then x231 else x227) = x232 ∧ 
                ∃ x235 : Int, IntKind.i64.wrap (prec_1 - x221) = x235 ∧ 
                ∃ x237 : Int, IntKind.i64.wrap (x235 - x232) = x237 ∧ 
                ∃ x238 : Int, (if x237 > 0 then x237 else 0) = x238 ∧ 
                ∃ Ix_1 : Nat → Option Addr → Nat → Nat → Int → World → Prop, (∃ m_5, Ix_1 m_5 x216 x216_n x216_c 0 w32) ∧
                ∀ m_3, ∀ (dst_7 : Option Addr) (dst_7_n dst_7_c : Nat), ∀ x240 : Int, ∀ w33, Ix_1 m_3 dst_7 dst_7_n dst_7_c x240 w33 →
                (decide (x240 < x221) = true →
                  ∀ w34, w34 = w33.alloc (.cells ⟨[.int .u8 48]⟩ 5) → 
                    ∃ (x244 : Option Addr) (x244_n x244_c : Nat), ∃ w35, BuiltinOk prog .append #[23, 23] 23 [false, false] [.slice dst_7 dst_7_n dst_7_c, .slice (some (⟨w33.heap.size, 0, none⟩)) 1 1] w34 (.slice x244 x244_n x244_c) w35 ∧ 
                    ∃ x245 : Int, IntKind.i64.wrap (x240 + 1) = x245 ∧ 
                    ∃ m_4, m_4 < m_3 ∧ Ix_1 m_4 x244 x244_n x244_c x245 w35) ∧ (decide (x240 < x221) = false →
                  ∃ Ix_2 : Nat → Option Addr → Nat → Nat → Int → World → Prop, (∃ m_8, Ix_2 m_8 dst_7 dst_7_n dst_7_c 0 w33) ∧
                    ∀ m_6, ∀ (dst_8 : Option Addr) (dst_8_n dst_8_c : Nat), ∀ x247 : Int, ∀ w36, Ix_2 m_6 dst_8 dst_8_n dst_8_c x247 w36 →
                    (decide (x247 < x232) = true →
                      ∃ x254 : Int, IntKind.i64.wrap (x224 + x247) = x254 ∧ 
                        ((0 : Int) ≤ x254 ∧ x254 < (s_n : Int)) ∧ ∃ sa_1 : Addr, s = some sa_1 ∧ 
                        ∃ x256 : Int, w36.cell? (sa_1.add (x254.toNat * 1)) = some (.int .u8 x256) ∧ 
                        ∀ w37, w37 = w36.alloc (.cells ⟨[.int .u8 x256]⟩ 5) → 
                        ∃ (x258 : Option Addr) (x258_n x258_c : Nat), ∃ w38, BuiltinOk prog .append #[23, 23] 23 [false, false] [.slice dst_8 dst_8_n dst_8_c, .slice (some (⟨w36.heap.size, 0, none⟩)) 1 1] w37 (.slice x258 x258_n x258_c) w38 ∧ 
                        ∃ x259 : Int, IntKind.i64.wrap (x247 + 1) = x259 ∧ 
                        ∃ m_7, m_7 < m_6 ∧ Ix_2 m_7 x258 x258_n x258_c x259 w38) ∧ (decide (x247 < x232) = false →
                      ∃ Ix_3 : Nat → Option Addr → Nat → Nat → Int → World → Prop, (∃ m_11, Ix_3 m_11 dst_8 dst_8_n dst_8_c 0 w36) ∧
                        ∀ m_9, ∀ (dst_9 : Option Addr) (dst_9_n dst_9_c : Nat), ∀ x261 : Int, ∀ w39, Ix_3 m_9 dst_9 dst_9_n dst_9_c x261 w39 →
                        (decide (x261 < x238) = true →
                          ∀ w40, w40 = w39.alloc (.cells ⟨[.int .u8 48]⟩ 5) → 
                            ∃ (x265 : Option Addr) (x265_n x265_c : Nat), ∃ w41, BuiltinOk prog .append #[23, 23] 23 [false, false] [.slice dst_9 dst_9_n dst_9_c, .slice (some (⟨w39.heap.size, 0, none⟩)) 1 1] w40 (.slice x265 x265_n x265_c) w41 ∧ 
                            ∃ x266 : Int, IntKind.i64.wrap (x261 + 1) = x266 ∧ 
                            ∃ m_10, m_10 < m_9 ∧ Ix_3 m_10 x265 x265_n x265_c x266 w41) ∧ (decide (x261 < x238) = false →
                          R (.slice dst_9 dst_9_n dst_9_c) w39)))) ∧ (decide (0 < prec_1) = false →
              R (.slice dst_6 dst_6_n dst_6_c) w30)) → Kx_9 dst_6 dst_6_n dst_6_c w30) →
            (decide (0 < dp) = true →
            ∃ x186 : Int, (if dp < nd then dp else nd) = x186 ∧ 
              ((0 : Int) ≤ x186 ∧ x186 ≤ (s_c : Int)) ∧ 
              ∃ Ix_4 : Nat → Option Addr → Nat → Nat → Int → World → Prop, (∃ m_14, Ix_4 m_14 dst_5 dst_5_n dst_5_c 0 w29) ∧
              ∀ m_12, ∀ (dst_10 : Option Addr) (dst_10_n dst_10_c : Nat), ∀ x191 : Int, ∀ w42, Ix_4 m_12 dst_10 dst_10_n dst_10_c x191 w42 →
              (decide (x191 < (x186.toNat : Int)) = true →
                ((0 : Int) ≤ x191 ∧ x191 < (x186.toNat : Int)) ∧ ∃ sa_2 : Addr, s = some sa_2 ∧ 
                  ∃ x194 : Int, w42.cell? (sa_2.add (x191.toNat * 1)) = some (.int .u8 x194) ∧ 
                  ∀ w43, w43 = w42.alloc (.cells ⟨[.int .u8 x194]⟩ 5) → 
                  ∃ (x198 : Option Addr) (x198_n x198_c : Nat), ∃ w44, BuiltinOk prog .append #[23, 23] 23 [false, false] [.slice dst_10 dst_10_n dst_10_c, .slice (some (⟨w42.heap.size, 0, none⟩)) 1 1] w43 (.slice x198 x198_n x198_c) w44 ∧ 
                  ∃ x199 : Int, IntKind.i64.wrap (x191 + 1) = x199 ∧ 
                  ∃ m_13, m_13 < m_12 ∧ Ix_4 m_13 x198 x198_n x198_c x199 w44) ∧ (decide (x191 < (x186.toNat : Int)) = false →
                ∃ x202 : Int, IntKind.i64.wrap (dp - x186) = x202 ∧ 
                  ∃ Ix_5 : Nat → Option Addr → Nat → Nat → Int → World → Prop, (∃ m_17, Ix_5 m_17 dst_10 dst_10_n dst_10_c 0 w42) ∧
                  ∀ m_15, ∀ (dst_11 : Option Addr) (dst_11_n dst_11_c : Nat), ∀ x203 : Int, ∀ w45, Ix_5 m_15 dst_11 dst_11_n dst_11_c x203 w45 →
                  (decide (x203 < x202) = true →
                    ∀ w46, w46 = w45.alloc (.cells ⟨[.int .u8 48]⟩ 5) → 
                      ∃ (x207 : Option Addr) (x207_n x207_c : Nat), ∃ w47, BuiltinOk prog .append #[23, 23] 23 [false, false] [.slice dst_11 dst_11_n dst_11_c, .slice (some (⟨w45.heap.size, 0, none⟩)) 1 1] w46 (.slice x207 x207_n x207_c) w47 ∧ 
                      ∃ x208 : Int, IntKind.i64.wrap (x203 + 1) = x208 ∧ 
                      ∃ m_16, m_16 < m_15 ∧ Ix_5 m_16 x207 x207_n x207_c x208 w47) ∧ (decide (x203 < x202) = false →
                    Kx_9 dst_11 dst_11_n dst_11_c w45))) ∧ (decide (0 < dp) = false →
            ∀ w48, w48 = w29.alloc (.cells ⟨[.int .u8 48]⟩ 5) → 
              ∃ (x211 : Option Addr) (x211_n x211_c : Nat), ∃ w49, BuiltinOk prog .append #[23, 23] 23 [false, false] [.slice dst_5 dst_5_n dst_5_c, .slice (some (⟨w29.heap.size, 0, none⟩)) 1 1] w48 (.slice x211 x211_n x211_c) w49 ∧ 
              Kx_9 x211 x211_n x211_c w49)) → Kx_8 dst_5 dst_5_n dst_5_c w29) →
          (neg = true →
          ∀ w50, w50 = w2.alloc (.cells ⟨[.int .u8 45]⟩ 5) → 
            ∃ (x181 : Option Addr) (x181_n x181_c : Nat), ∃ w51, BuiltinOk prog .append #[23, 23] 23 [false, false] [.slice dst dst_n dst_c, .slice (some (⟨w2.heap.size, 0, none⟩)) 1 1] w50 (.slice x181 x181_n x181_c) w51 ∧ 
            Kx_8 x181 x181_n x181_c w51) ∧ (neg = false →
          Kx_8 dst dst_n dst_c w2)) ∧ (decide (fmt_1 = 102) = false →
        ∀ w52, w52 = w2.alloc (.cells ⟨[.int .u8 37, .int .u8 fmt_1]⟩ 5) → 
          ∃ (x271 : Option Addr) (x271_n x271_c : Nat), ∃ w53, BuiltinOk prog .append #[23, 23] 23 [false, false] [.slice dst dst_n dst_c, .slice (some (⟨w2.heap.size, 0, none⟩)) 2 2] w52 (.slice x271 x271_n x271_c) w53 ∧ 
          R (.slice x271 x271_n x271_c) w53))) → Kx_1 x75 w2) →
    (decide (fmt_1 = 101) = true →
    Kx_1 (decide (fmt_1 = 101)) w1) ∧ (decide (fmt_1 = 101) = false →
    Kx_1 (decide (fmt_1 = 69)) w1)) → Kx prec_1 fmt_1 w1) →
  ∀ Kx_10 : Bool → World → Prop, (∀ x36 : Bool, ∀ w54,
  ((x36 = true →
    ∀ Kx_11 : Int → World → Prop, (∀ eprec : Int, ∀ w55,
      (∀ Kx_12 : Int → World → Prop, (∀ eprec_1 : Int, ∀ w56,
        (∃ x49 : Int, IntKind.i64.wrap (dp - 1) = x49 ∧ 
          ∀ Kx_13 : Bool → World → Prop, (∀ x56 : Bool, ∀ w57,
          ((x56 = true →
            ∀ Kx_14 : Int → World → Prop, (∀ prec_2 : Int, ∀ w58,
              (∃ x62 : Int, IntKind.i64.wrap (prec_2 - 1) = x62 ∧ 
                ∃ x64 : Int, IntKind.u8.wrap (fmt + 101) = x64 ∧ 
                ∃ x65 : Int, IntKind.u8.wrap (x64 - 103) = x65 ∧ 
                Kx x62 x65 w58) → Kx_14 prec_2 w58) →
              (decide (nd < prec) = true →
              Kx_14 nd w57) ∧ (decide (nd < prec) = false →
              Kx_14 prec w57)) ∧ (x56 = false →
            (decide (dp < prec) = true →
              ∃ x72 : Int, IntKind.i64.wrap (nd - dp) = x72 ∧ 
                ∃ x73 : Int, (if (0 : Int) > x72 then 0 else x72) = x73 ∧ 
                Kx x73 102 w57) ∧ (decide (dp < prec) = false →
              ∃ x72_1 : Int, IntKind.i64.wrap (prec - dp) = x72_1 ∧ 
                ∃ x73_1 : Int, (if (0 : Int) > x72_1 then 0 else x72_1) = x73_1 ∧ 
                Kx x73_1 102 w57))) → Kx_13 x56 w57) →
          (decide (x49 < (-4)) = true →
          Kx_13 true w56) ∧ (decide (x49 < (-4)) = false →
          Kx_13 (decide (eprec_1 ≤ x49)) w56)) → Kx_12 eprec_1 w56) →
        (shortest = true →
        Kx_12 6 w55) ∧ (shortest = false →
        Kx_12 eprec w55)) → Kx_11 eprec w55) →
      (decide (nd < prec) = true →
      (decide (dp ≤ nd) = true →
        Kx_11 nd w54) ∧ (decide (dp ≤ nd) = false →
        Kx_11 prec w54)) ∧ (decide (nd < prec) = false →
      Kx_11 prec w54)) ∧ (x36 = false →
    Kx prec fmt w54)) → Kx_10 x36 w54) →
  (decide (fmt = 103) = true →
  Kx_10 true w) ∧ (decide (fmt = 103) = false →
  Kx_10 (decide (fmt = 71)) w)
def an221 : Ann :=
  .seq (.reg (.text []))
  (.cut [(5, .int .i64), (6, .int .u8)] [0, 1, 2, 3, 4] (.cut [(36, .bool)] [0, 1, 2, 3, 4, 5, 6, 7] (.reg (.text [.p .n, .p .n, .p .n, .gs .n 57 58]))
  (.cond 41 42 (.seq (.reg (.text []))
  (.cut [(17, .int .i64)] [0, 1, 2, 3, 4, 5, 6, 7] (.seq (.reg (.text [.p .n, .p .n, .p .n, .p .n, .gs .n 53 54]))
  (.on 54 (.no .leaf) (.cond 55 56 (.reg (.text [])) .leaf)))
  (.cut [(17, .int .i64)] [0, 1, 2, 3, 4, 5, 6] (.seq (.reg (.text []))
  (.cond 51 52 (.reg (.text [])) .leaf))
  (.seq (.reg (.text []))
  (.cut [(56, .bool)] [0, 1, 2, 3, 4, 5, 6] (.reg (.text [.p .n, .p .n, .p .n, .gs .n 49 50]))
  (.cond 43 44 (.cut [(5, .int .i64)] [0, 1, 2, 3, 4, 6] (.seq (.reg (.text []))
  (.cond 45 46 (.reg (.text [])) .leaf))
  (.seq (.reg (.text []))
  (.reg (.text [])))) (.seq (.seq (.reg (.text []))
  (.cond 47 48 (.reg (.text [])) .leaf))
  (.seq (.reg (.text []))
  (.reg (.text [])))))))))) .leaf))
  (.seq (.seq (.reg (.text []))
  (.block (.cut [(75, .bool)] [0, 1, 2, 3, 4, 5, 6, 74] (.seq (.reg (.text []))
  (.cond 39 40 .leaf (.reg (.text []))))
  (.cond 1 2 (.cut [(0, .slice)] [2, 3, 4, 5, 6] (.seq (.reg (.text []))
  (.cond 19 20 (.reg (.text [.p .n, .p .n, .p (.sh [.slice])])) .leaf))
  (.seq (.reg (.text []))
  (.cut [(19, .int .u8)] [0, 2, 3, 4, 5, 6] (.seq (.reg (.text []))
  (.cond 17 18 (.reg (.text [.p .n, .p (.sh []), .p (.sh [.int .u8])])) .leaf))
  (.seq (.reg (.text [.p .n, .p .n, .p .n, .p (.sh [.slice])]))
  (.cut [(0, .slice)] [3, 4, 6] (.seq (.reg (.text []))
  (.cond 11 12 (.seq (.reg (.text [.p .n, .p .n, .p (.sh [.slice])]))
  (.seq (.reg (.text []))
  (.seq (.reg (.text []))
  (.cut [(0, .slice), (20, .int .i64)] [3, 4, 5, 6] (.seq (.reg (.text []))
  (.cond 15 16 (.seq (.reg (.text [.p .n, .p .n, .p .n, .p .n, .p .n, .p (.sh [.slice])]))
  (.reg (.text []))) .leaf))
  (.seq (.reg (.text []))
  (.block (.loop [(0, .slice), (114, .int .i64)] [3, 4, 6, 113] (.seq (.reg (.text []))
  (.seq (.cond 13 14 .leaf .leaf)
  (.seq (.block (.reg (.text [.p .n, .p .n, .p (.sh [.slice])])))
  (.reg (.text [])))))))))))) .leaf))
  (.seq (.reg (.text [.p .n, .p .n, .p .n, .p (.sh [.slice])]))
  (.seq (.reg (.text []))
  (.cut [(22, .int .i64)] [0] (.seq (.reg (.text []))
  (.cond 9 10 (.reg (.text [])) .leaf))
  (.cut [(19, .int .u8), (22, .int .i64)] [0] (.seq (.reg (.text []))
  (.cond 7 8 (.seq (.reg (.text []))
  (.reg (.text []))) (.reg (.text []))))
  (.seq (.reg (.text [.p .n, .p .n, .p .n, .p (.sh [.slice])]))
  (.seq (.block (.seq (.reg (.text []))
  (.cond 3 4 (.reg (.text [.p .n, .p .n, .p .n, .p .n, .p .n, .p (.sh [.slice])])) (.seq (.reg (.text []))
  (.cond 5 6 (.reg (.text [.p .n, .p .n, .p .n, .p .n, .p .n, .p .n, .p .n, .p .n, .p .n, .p .n, .p (.sh [.slice])])) (.reg (.text [.p .n, .p .n, .p .n, .p .n, .p .n, .p .n, .p .n, .p .n, .p .n, .p .n, .p .n, .p .n, .p .n, .p .n, .p .n, .p (.sh [.slice])])))))))
  (.seq (.reg (.text []))
  .leaf)))))))))))) (.seq (.reg (.text []))
  (.cond 21 22 (.cut [(0, .slice)] [2, 3, 4, 5] (.seq (.reg (.text []))
  (.cond 37 38 (.reg (.text [.p .n, .p .n, .p (.sh [.slice])])) .leaf))
  (.cut [(0, .slice)] [2, 3, 4, 5] (.seq (.reg (.text []))
  (.cond 31 32 (.seq (.reg (.text []))
  (.seq (.seq (.reg (.text []))
  (.block (.loop [(0, .slice), (191, .int .i64)] [2, 3, 4, 5, 23, 189, 190] (.seq (.reg (.text []))
  (.seq (.cond 33 34 .leaf .leaf)
  (.seq (.block (.seq (.reg (.text [.p (.sh []), .p (.sh [.int .u8])]))
  (.reg (.text [.p .n, .p .n, .p .n, .p (.sh [.slice])]))))
  (.reg (.text []))))))))
  (.seq (.reg (.text []))
  (.block (.loop [(0, .slice), (203, .int .i64)] [2, 3, 4, 5, 202] (.seq (.reg (.text []))
  (.seq (.cond 35 36 .leaf .leaf)
  (.seq (.block (.reg (.text [.p .n, .p .n, .p (.sh [.slice])])))
  (.reg (.text [])))))))))) (.reg (.text [.p .n, .p .n, .p (.sh [.slice])]))))
  (.seq (.seq (.reg (.text []))
  (.cond 23 24 (.seq (.reg (.text [.p .n, .p .n, .p (.sh [.slice])]))
  (.seq (.reg (.text []))
  (.seq (.reg (.text []))
  (.seq (.reg (.text []))
  (.seq (.reg (.text []))
  (.seq (.seq (.reg (.text []))
  (.block (.loop [(0, .slice), (240, .int .i64)] [2, 27, 28, 29, 239] (.seq (.reg (.text []))
  (.seq (.cond 25 26 .leaf .leaf)
  (.seq (.block (.reg (.text [.p .n, .p .n, .p (.sh [.slice])])))
  (.reg (.text []))))))))
  (.seq (.seq (.reg (.text []))
  (.block (.loop [(0, .slice), (247, .int .i64)] [2, 27, 29, 246] (.seq (.reg (.text []))
  (.seq (.cond 27 28 .leaf .leaf)
  (.seq (.block (.seq (.reg (.text []))
  (.reg (.text [.p .n, .p .n, .p .n, .p .n, .p .n, .p (.sh []), .p (.sh [.int .u8]), .p .n, .p (.sh [.slice])]))))
  (.reg (.text []))))))))
  (.seq (.reg (.text []))
  (.block (.loop [(0, .slice), (261, .int .i64)] [260] (.seq (.reg (.text []))
  (.seq (.cond 29 30 .leaf .leaf)
  (.seq (.block (.reg (.text [.p .n, .p .n, .p (.sh [.slice])])))
  (.reg (.text []))))))))))))))) .leaf))
  (.seq (.reg (.text []))
  .leaf)))) .leaf))))))
  (.seq (.reg (.text [.p .n, .p .n, .p .n, .p (.sh [.slice])]))
  .leaf)))
theorem vcE221 (dst : Option Addr) (dst_n dst_c : Nat) (neg : Bool) (s : Option Addr) (s_n s_c : Nat) (dp : Int) (nd : Int) (prec : Int) (fmt : Int) (shortest : Bool) (w : World) (R : Value → World → Prop) : vcFn prog f221 an221 [.slice dst dst_n dst_c, .bool neg, .slice s s_n s_c, .int .i64 dp, .int .i64 nd, .int .i64 prec, .int .u8 fmt, .bool shortest] w R = VC221 dst dst_n dst_c neg s s_n s_c dp nd prec fmt shortest w R := by kernel_rfl
theorem c221 (dst : Option Addr) (dst_n dst_c : Nat) (neg : Bool) (s : Option Addr) (s_n s_c : Nat) (dp : Int) (nd : Int) (prec : Int) (fmt : Int) (shortest : Bool) (w : World) (R : Value → World → Prop) (hvc : VC221 dst dst_n dst_c neg s s_n s_c dp nd prec fmt shortest w R) : Calls prog 221 ⟨[.slice dst dst_n dst_c, .bool neg, .slice s s_n s_c, .int .i64 dp, .int .i64 nd, .int .i64 prec, .int .u8 fmt, .bool shortest]⟩ w fun e w' => ∃ v, e = .returned v ∧ R v w' :=
  vc_calls mixed (fn := f221) (ann := an221) (by kernel_rfl) ((vcE221 dst dst_n dst_c neg s s_n s_c dp nd prec fmt shortest w R).symm ▸ hvc)

end Go.Proofs.Tryz
