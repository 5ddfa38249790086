/- Parts of a proof, joined: VD, A7, A8. -/
import Derived.Test.YtfofafjemgfobaaGreatDoorZ4
import Derived.Test.YtfofafjemgfobaaGreatDoorZ8
set_option linter.unusedVariables false
set_option maxRecDepth 100000
namespace Go.Proofs.Tryz
open Go.Vc

/- F122: spec.decTenth -/
def VC122 (hi : Int) (lo : Int) (w : World) (R : Value → World → Prop) : Prop :=
  (0 : Int) ≤ 32 ∧ ∃ x12 : Int, Int.fdiv hi (2 ^ 32) = x12 ∧ 
  ∃ x14 : Int, bits .and .u64 hi 4294967295 = x14 ∧ 
  (0 : Int) ≤ 32 ∧ ∃ x16 : Int, Int.fdiv lo (2 ^ 32) = x16 ∧ 
  ∃ x18 : Int, bits .and .u64 lo 4294967295 = x18 ∧ 
  ∀ w1, w1 = w.alloc (.cells ⟨[.int .u64 0, .int .u64 0, .int .u64 0, .int .u64 0]⟩ 247) → 
  ∃ w2, (Instr.storeAt 247 (.pointer (some ⟨w.heap.size, 0, none⟩)) (.agg ⟨[.int .u64 x12, .int .u64 x14, .int .u64 x16, .int .u64 x18]⟩)).run prog w1 = .ok () w2 ∧ 
  ∃ Ix : Nat → Int → Int → World → Prop, (∃ m_2, Ix m_2 0 0 w2) ∧
  ∀ m, ∀ left : Int, ∀ x20 : Int, ∀ w3, Ix m left x20 w3 →
  (decide (x20 < 4) = true →
    (0 : Int) ≤ 32 ∧ ∃ x24 : Int, IntKind.u64.wrap (left * 2 ^ 32) = x24 ∧ 
      ((0 : Int) ≤ x20 ∧ x20 < (4 : Int)) ∧ 
      ∃ x27 : Int, w3.cell? ((⟨w.heap.size, 0, none⟩ : Addr).add (x20.toNat * 1)) = some (.int .u64 x27) ∧ 
      ∃ x28 : Int, bits .or .u64 x24 x27 = x28 ∧ 
      (10 : Int) ≠ 0 ∧ ∃ x31 : Int, IntKind.u64.wrap (Int.tdiv x28 10) = x31 ∧ 
      (10 : Int) ≠ 0 ∧ ∃ x33 : Int, Int.tmod x28 10 = x33 ∧ 
      ((0 : Int) ≤ x20 ∧ x20 < (4 : Int)) ∧ 
      CanStore w3 ((⟨w.heap.size, 0, none⟩ : Addr).add (x20.toNat * 1)) (.int .u64 x31) ∧ ∀ w4, w4 = w3.setCell ((⟨w.heap.size, 0, none⟩ : Addr).add (x20.toNat * 1)) (.int .u64 x31) → 
      ∃ x35 : Int, IntKind.i64.wrap (x20 + 1) = x35 ∧ 
      ∃ m_1, m_1 < m ∧ Ix m_1 x33 x35 w4) ∧ (decide (x20 < 4) = false →
    ((0 : Int) ≤ 0 ∧ 0 < (4 : Int)) ∧ 
      ∃ x37 : Int, w3.drew.cell? ⟨w.heap.size, 0, none⟩ = some (.int .u64 x37) ∧ 
      (0 : Int) ≤ 32 ∧ ∃ x38 : Int, IntKind.u64.wrap (x37 * 2 ^ 32) = x38 ∧ 
      ((0 : Int) ≤ 1 ∧ 1 < (4 : Int)) ∧ 
      ∃ x40 : Int, w3.drew.cell? ⟨w.heap.size, 1, none⟩ = some (.int .u64 x40) ∧ 
      ∃ x41 : Int, bits .or .u64 x38 x40 = x41 ∧ 
      ((0 : Int) ≤ 2 ∧ 2 < (4 : Int)) ∧ 
      ∃ x43 : Int, w3.drew.cell? ⟨w.heap.size, 2, none⟩ = some (.int .u64 x43) ∧ 
      (0 : Int) ≤ 32 ∧ ∃ x44 : Int, IntKind.u64.wrap (x43 * 2 ^ 32) = x44 ∧ 
      ((0 : Int) ≤ 3 ∧ 3 < (4 : Int)) ∧ 
      ∃ x46 : Int, w3.drew.cell? ⟨w.heap.size, 3, none⟩ = some (.int .u64 x46) ∧ 
      ∃ x47 : Int, bits .or .u64 x44 x46 = x47 ∧ 
      ∃ x49 : Int, IntKind.u8.wrap left = x49 ∧ 
      R (.tuple ⟨[.int .u64 x41, .int .u64 x47, .int .u8 x49]⟩) w3.drew)
def an122 : Ann :=
  .seq (.reg (.text []))
  (.seq (.reg (.text []))
  (.seq (.reg (.text []))
  (.seq (.seq (.reg (.text []))
  (.block (.loop [(8, .int .u64), (20, .int .i64)] [7] (.seq (.reg (.text []))
  (.seq (.cond 1 2 .leaf .leaf)
  (.seq (.block (.seq (.reg (.text []))
  (.seq (.reg (.text [.p .n, .p .n, .p .n, .p .n, .p (.sh [.int .u64])]))
  (.reg (.text [])))))
  (.reg (.text []))))))))
  (.seq (.reg (.loads (.take 0 (.p .n) (.take 1 (.p (.sh [.int .u64])) (.take 2 (.p .n) (.take 3 (.p .n) (.take 4 (.p (.sh [.int .u64])) (.take 5 (.p .n) (.take 6 (.p .n) (.take 7 (.p (.sh [.int .u64])) (.take 8 (.p .n) (.take 9 (.p .n) (.take 10 (.p (.sh [.int .u64])) (.take 11 (.p .n) (.take 12 (.p .n) (.take 13 (.p .n) (.take 14 (.p .n) (.take 15 (.p .n) (.take 16 (.p .n) .done)))))))))))))))))))
  .leaf))))
theorem vcE122 (hi : Int) (lo : Int) (w : World) (R : Value → World → Prop) : vcFn prog f122 an122 [.int .u64 hi, .int .u64 lo] w R = VC122 hi lo w R := by kernel_rfl
theorem c122 (hi : Int) (lo : Int) (w : World) (R : Value → World → Prop) (hvc : VC122 hi lo w R) : Calls prog 122 ⟨[.int .u64 hi, .int .u64 lo]⟩ w fun e w' => ∃ v, e = .returned v ∧ R v w' :=
  vc_calls mixed (fn := f122) (ann := an122) (by kernel_rfl) ((vcE122 hi lo w R).symm ▸ hvc)

/- F66: spec.decDigits -/
def VC66 (hi : Int) (lo : Int) (w : World) (R : Value → World → Prop) : Prop :=
  ∀ Kx : World → Prop, (∀ w1,
  (∃ Ix : Nat → Int → Int → Option Addr → Nat → Nat → World → Prop, (∃ m_2, Ix m_2 hi lo none 0 0 w1) ∧
    ∀ m, ∀ hi_1 : Int, ∀ lo_1 : Int, ∀ (out : Option Addr) (out_n out_c : Nat), ∀ w2, Ix m hi_1 lo_1 out out_n out_c w2 →
    ∀ Kx_1 : World → Prop, (∀ w3,
      (Calls prog 122 ⟨[.int .u64 hi_1, .int .u64 lo_1]⟩ w3 fun e w4 => ∃ x22 : Int, ∃ x22_1 : Int, ∃ x22_2 : Int, e = .returned (.tuple ⟨[.int .u64 x22, .int .u64 x22_1, .int .u8 x22_2]⟩) ∧ 
        ∃ x27 : Int, IntKind.u8.wrap (48 + x22_2) = x27 ∧ 
        ∀ w5, w5 = w4.alloc (.cells ⟨[.int .u8 x27]⟩ 5) → 
        ∃ (x30 : Option Addr) (x30_n x30_c : Nat), ∃ w6, BuiltinOk prog .append #[23, 23] 23 [false, false] [.slice (some (⟨w4.heap.size, 0, none⟩)) 1 1, .slice out out_n out_c] w5 (.slice x30 x30_n x30_c) w6 ∧ 
        ∃ m_1, m_1 < m ∧ Ix m_1 x22 x22_1 x30 x30_n x30_c w6) → Kx_1 w3) →
      ((!decide (hi_1 = 0)) = true →
      Kx_1 w2) ∧ ((!decide (hi_1 = 0)) = false →
      ((!decide (lo_1 = 0)) = true →
        Kx_1 w2) ∧ ((!decide (lo_1 = 0)) = false →
        ∃ x32 : List UInt8, ∃ w7, (convert 23 9 (.slice out out_n out_c)).run prog w2 = .ok (.string (mkS x32)) w7 ∧ 
          R (.string (mkS x32)) w7))) → Kx w1) →
  (decide (hi = 0) = true →
  (decide (lo = 0) = true →
    R (.string (mkS [48])) w) ∧ (decide (lo = 0) = false →
    Kx w)) ∧ (decide (hi = 0) = false →
  Kx w)
def an66 : Ann :=
  .seq (.reg (.text []))
  (.cut [] [0, 1] (.seq (.reg (.text [.p .n, .p .n, .p .n, .gs .n 5 6]))
  (.on 6 (.no .leaf) (.cond 7 8 (.seq (.reg (.text []))
  .leaf) .leaf)))
  (.seq (.reg (.text []))
  (.seq (.block (.loop [(0, .int .u64), (1, .int .u64), (5, .slice)] [] (.cut [] [0, 1, 5] (.seq (.reg (.text [.p .n, .p .n, .p .n, .gs .n 1 2]))
  (.on 2 (.cond 3 4 .leaf .leaf) (.yes .leaf)))
  (.block (.seq (.reg (.text []))
  (.seq (.reg (.text [.p .n, .p .n, .p (.sh [.int .u64, .int .u64, .int .u8])]))
  (.reg (.text [.p .n, .p .n, .p .n, .p .n, .p (.sh [.slice])]))))))))
  (.seq (.reg (.text [.p .n, .p (.sh [.str])]))
  .leaf))))
theorem vcE66 (hi : Int) (lo : Int) (w : World) (R : Value → World → Prop) : vcFn prog f66 an66 [.int .u64 hi, .int .u64 lo] w R = VC66 hi lo w R := by kernel_rfl
theorem c66 (hi : Int) (lo : Int) (w : World) (R : Value → World → Prop) (hvc : VC66 hi lo w R) : Calls prog 66 ⟨[.int .u64 hi, .int .u64 lo]⟩ w fun e w' => ∃ v, e = .returned v ∧ R v w' :=
  vc_calls mixed (fn := f66) (ann := an66) (by kernel_rfl) ((vcE66 hi lo w R).symm ▸ hvc)

/- F38: spec.DecOf -/
def VC38 (hi : Int) (lo : Int) (w : World) (R : Value → World → Prop) : Prop :=
  ∀ w1, w1 = w.alloc (.cells ⟨[.int .i64 0, .bool false, .string (mkS []), .int .i64 0]⟩ 64) → 
  (0 : Int) ≤ 63 ∧ ∃ x7 : Int, Int.fdiv hi (2 ^ 63) = x7 ∧ 
  ∀ w2, w2 = w1.alloc (.cells ⟨[.int .i64 0, .bool false, .string (mkS []), .int .i64 0]⟩ 64) → 
  ∃ w3, (Instr.storeAt 64 (.pointer (some ⟨w1.heap.size, 0, none⟩)) (.agg ⟨[.int .i64 0, .bool (decide (x7 = 1)), .string (mkS []), .int .i64 0]⟩)).run prog w2 = .ok () w3 ∧ 
  (0 : Int) ≤ 58 ∧ ∃ x11 : Int, Int.fdiv hi (2 ^ 58) = x11 ∧ 
  ∃ x12 : Int, bits .and .u64 x11 31 = x12 ∧ 
  (decide (x12 = 30) = true →
  CanStore w3 ⟨w1.heap.size, 0, none⟩ (.int .i64 1) ∧ ∀ w4, w4 = w3.setCell ⟨w1.heap.size, 0, none⟩ (.int .i64 1) → 
    ∃ x16 : Int, ∃ x16_1 : Bool, ∃ x16_2 : List UInt8, ∃ x16_3 : Int, LoadsRow prog 64 w4 ⟨w1.heap.size, 0, none⟩ [.int .i64 x16, .bool x16_1, .string (mkS x16_2), .int .i64 x16_3] ∧ 
    ∃ w5, (Instr.storeAt 64 (.pointer (some ⟨w.heap.size, 0, none⟩)) (.agg ⟨[.int .i64 x16, .bool x16_1, .string (mkS x16_2), .int .i64 x16_3]⟩)).run prog w4 = .ok () w5 ∧ 
    ∃ r : List Value, LoadsRow prog 64 w5 ⟨w.heap.size, 0, none⟩ r ∧ R (.agg ⟨r⟩) w5) ∧ (decide (x12 = 30) = false →
  (decide (x12 = 31) = true →
    CanStore w3 ⟨w1.heap.size, 0, none⟩ (.int .i64 2) ∧ ∀ w6, w6 = w3.setCell ⟨w1.heap.size, 0, none⟩ (.int .i64 2) → 
      ∃ x20 : Int, ∃ x20_1 : Bool, ∃ x20_2 : List UInt8, ∃ x20_3 : Int, LoadsRow prog 64 w6 ⟨w1.heap.size, 0, none⟩ [.int .i64 x20, .bool x20_1, .string (mkS x20_2), .int .i64 x20_3] ∧ 
      ∃ w7, (Instr.storeAt 64 (.pointer (some ⟨w.heap.size, 0, none⟩)) (.agg ⟨[.int .i64 x20, .bool x20_1, .string (mkS x20_2), .int .i64 x20_3]⟩)).run prog w6 = .ok () w7 ∧ 
      ∃ r_1 : List Value, LoadsRow prog 64 w7 ⟨w.heap.size, 0, none⟩ r_1 ∧ R (.agg ⟨r_1⟩) w7) ∧ (decide (x12 = 31) = false →
    (0 : Int) ≤ 61 ∧ ∃ x22 : Int, Int.fdiv hi (2 ^ 61) = x22 ∧ 
      ∃ x23 : Int, bits .and .u64 x22 3 = x23 ∧ 
      (decide (x23 = 3) = true →
      (0 : Int) ≤ 47 ∧ ∃ x26 : Int, Int.fdiv hi (2 ^ 47) = x26 ∧ 
        ∃ x27 : Int, bits .and .u64 x26 16383 = x27 ∧ 
        ∃ x28 : Int, IntKind.i64.wrap x27 = x28 ∧ 
        ∃ x29 : Int, IntKind.i64.wrap (x28 + (-6176)) = x29 ∧ 
        CanStore w3 ⟨w1.heap.size, 2, none⟩ (.string (mkS [48])) ∧ ∀ w8, w8 = w3.setCell ⟨w1.heap.size, 2, none⟩ (.string (mkS [48])) → 
        CanStore w8 ⟨w1.heap.size, 3, none⟩ (.int .i64 x29) ∧ ∀ w9, w9 = w8.setCell ⟨w1.heap.size, 3, none⟩ (.int .i64 x29) → 
        ∃ x32 : Int, ∃ x32_1 : Bool, ∃ x32_2 : List UInt8, ∃ x32_3 : Int, LoadsRow prog 64 w9 ⟨w1.heap.size, 0, none⟩ [.int .i64 x32, .bool x32_1, .string (mkS x32_2), .int .i64 x32_3] ∧ 
        ∃ w10, (Instr.storeAt 64 (.pointer (some ⟨w.heap.size, 0, none⟩)) (.agg ⟨[.int .i64 x32, .bool x32_1, .string (mkS x32_2), .int .i64 x32_3]⟩)).run prog w9 = .ok () w10 ∧ 
        ∃ r_2 : List Value, LoadsRow prog 64 w10 ⟨w.heap.size, 0, none⟩ r_2 ∧ R (.agg ⟨r_2⟩) w10) ∧ (decide (x23 = 3) = false →
      ∃ x34 : Int, bits .and .u64 hi 562949953421311 = x34 ∧ 
        Calls prog 66 ⟨[.int .u64 x34, .int .u64 lo]⟩ w3 fun e w11 => ∃ x36 : List UInt8, e = .returned (.string (mkS x36)) ∧ 
        (0 : Int) ≤ 49 ∧ ∃ x38 : Int, Int.fdiv hi (2 ^ 49) = x38 ∧ 
        ∃ x39 : Int, bits .and .u64 x38 16383 = x39 ∧ 
        ∃ x40 : Int, IntKind.i64.wrap x39 = x40 ∧ 
        ∃ x41 : Int, IntKind.i64.wrap (x40 + (-6176)) = x41 ∧ 
        CanStore w11 ⟨w1.heap.size, 2, none⟩ (.string (mkS x36)) ∧ ∀ w12, w12 = w11.setCell ⟨w1.heap.size, 2, none⟩ (.string (mkS x36)) → 
        CanStore w12 ⟨w1.heap.size, 3, none⟩ (.int .i64 x41) ∧ ∀ w13, w13 = w12.setCell ⟨w1.heap.size, 3, none⟩ (.int .i64 x41) → 
        ∃ x44 : Int, ∃ x44_1 : Bool, ∃ x44_2 : List UInt8, ∃ x44_3 : Int, LoadsRow prog 64 w13 ⟨w1.heap.size, 0, none⟩ [.int .i64 x44, .bool x44_1, .string (mkS x44_2), .int .i64 x44_3] ∧ 
        ∃ w14, (Instr.storeAt 64 (.pointer (some ⟨w.heap.size, 0, none⟩)) (.agg ⟨[.int .i64 x44, .bool x44_1, .string (mkS x44_2), .int .i64 x44_3]⟩)).run prog w13 = .ok () w14 ∧ 
        ∃ r_3 : List Value, LoadsRow prog 64 w14 ⟨w.heap.size, 0, none⟩ r_3 ∧ R (.agg ⟨r_3⟩) w14)))
def an38 : Ann :=
  .seq (.reg (.text []))
  (.seq (.reg (.text []))
  (.seq (.seq (.reg (.text []))
  (.block (.seq (.reg (.text []))
  (.cond 1 2 (.seq (.reg (.text []))
  (.seq (.reg (.text [.p (.sh [.int .i64, .bool, .str, .int .i64])]))
  .leaf)) (.seq (.reg (.text []))
  (.cond 3 4 (.seq (.reg (.text []))
  (.seq (.reg (.text [.p (.sh [.int .i64, .bool, .str, .int .i64])]))
  .leaf)) .leaf))))))
  (.seq (.seq (.reg (.text []))
  (.cond 5 6 (.seq (.reg (.text []))
  (.seq (.reg (.text [.p (.sh [.int .i64, .bool, .str, .int .i64])]))
  .leaf)) .leaf))
  (.seq (.reg (.text [.p .n, .p .n, .p .n, .p (.sh [.str])]))
  (.seq (.reg (.text [.p (.sh [.int .i64, .bool, .str, .int .i64])]))
  .leaf)))))
theorem vcE38 (hi : Int) (lo : Int) (w : World) (R : Value → World → Prop) : vcFn prog f38 an38 [.int .u64 hi, .int .u64 lo] w R = VC38 hi lo w R := by kernel_rfl
theorem c38 (hi : Int) (lo : Int) (w : World) (R : Value → World → Prop) (hvc : VC38 hi lo w R) : Calls prog 38 ⟨[.int .u64 hi, .int .u64 lo]⟩ w fun e w' => ∃ v, e = .returned v ∧ R v w' :=
  vc_calls mixed (fn := f38) (ann := an38) (by kernel_rfl) ((vcE38 hi lo w R).symm ▸ hvc)

/- F111: spec.DecIs -/
def VC111 (dKind : Int) (dNeg : Bool) (dDigits : List UInt8) (dExp : Int) (w : World) (R : Value → World → Prop) : Prop :=
  ∀ w1, w1 = w.alloc (.cells ⟨[.int .i64 dKind, .bool dNeg, .string (mkS dDigits), .int .i64 dExp]⟩ 64) → 
  ∃ x5 : Int, w1.cell? ⟨w.heap.size, 0, none⟩ = some (.int .i64 x5) ∧ 
  ((!decide (x5 = 0)) = true →
  ∃ x8 : Int, w1.cell? ⟨w.heap.size, 0, none⟩ = some (.int .i64 x8) ∧ 
    (decide (x8 = 1) = true →
    R (.bool true) w1) ∧ (decide (x8 = 1) = false →
    ∃ x12 : Int, w1.cell? ⟨w.heap.size, 0, none⟩ = some (.int .i64 x12) ∧ 
      R (.bool (decide (x12 = 2))) w1)) ∧ ((!decide (x5 = 0)) = false →
  ∀ Kx : World → Prop, (∀ w2,
    (∃ Ix : Nat → Int → World → Prop, (∃ m_2, Ix m_2 0 w2) ∧
      ∀ m, ∀ i : Int, ∀ w3, Ix m i w3 →
      ∃ x49 : List UInt8, w3.cell? ⟨w.heap.size, 2, none⟩ = some (.string (mkS x49)) ∧ 
        (decide (i < (x49.length : Int)) = true →
        ∃ x55 : List UInt8, w3.cell? ⟨w.heap.size, 2, none⟩ = some (.string (mkS x55)) ∧ 
          ∃ x57 : UInt8, ((0 : Int) ≤ i ∧ x55[i.toNat]? = some x57) ∧ 
          (decide ((x57.toNat : Int) < 48) = true →
          R (.bool false) w3) ∧ (decide ((x57.toNat : Int) < 48) = false →
          ∃ x61 : List UInt8, w3.cell? ⟨w.heap.size, 2, none⟩ = some (.string (mkS x61)) ∧ 
            ∃ x63 : UInt8, ((0 : Int) ≤ i ∧ x61[i.toNat]? = some x63) ∧ 
            (decide (57 < (x63.toNat : Int)) = true →
            R (.bool false) w3) ∧ (decide (57 < (x63.toNat : Int)) = false →
            ∃ x53 : Int, IntKind.i64.wrap (i + 1) = x53 ∧ 
              ∃ m_1, m_1 < m ∧ Ix m_1 x53 w3))) ∧ (decide (i < (x49.length : Int)) = false →
        R (.bool true) w3)) → Kx w2) →
    ∃ x16 : List UInt8, w1.cell? ⟨w.heap.size, 2, none⟩ = some (.string (mkS x16)) ∧ 
    (decide ((x16.length : Int) < 1) = true →
    R (.bool false) w1) ∧ (decide ((x16.length : Int) < 1) = false →
    ∃ x21 : List UInt8, w1.cell? ⟨w.heap.size, 2, none⟩ = some (.string (mkS x21)) ∧ 
      (decide (34 < (x21.length : Int)) = true →
      R (.bool false) w1) ∧ (decide (34 < (x21.length : Int)) = false →
      ∃ x27 : List UInt8, w1.cell? ⟨w.heap.size, 2, none⟩ = some (.string (mkS x27)) ∧ 
        (decide (1 < (x27.length : Int)) = true →
        ∃ x32 : List UInt8, w1.cell? ⟨w.heap.size, 2, none⟩ = some (.string (mkS x32)) ∧ 
          ∃ x33 : UInt8, ((0 : Int) ≤ 0 ∧ x32[0]? = some x33) ∧ 
          (decide ((x33.toNat : Int) = 48) = true →
          R (.bool false) w1) ∧ (decide ((x33.toNat : Int) = 48) = false →
          ∃ x39 : Int, w1.cell? ⟨w.heap.size, 3, none⟩ = some (.int .i64 x39) ∧ 
            (decide (x39 < (-6176)) = true →
            R (.bool false) w1) ∧ (decide (x39 < (-6176)) = false →
            ∃ x44 : Int, w1.cell? ⟨w.heap.size, 3, none⟩ = some (.int .i64 x44) ∧ 
              (decide (6111 < x44) = true →
              R (.bool false) w1) ∧ (decide (6111 < x44) = false →
              Kx w1)))) ∧ (decide (1 < (x27.length : Int)) = false →
        ∃ x39_1 : Int, w1.cell? ⟨w.heap.size, 3, none⟩ = some (.int .i64 x39_1) ∧ 
          (decide (x39_1 < (-6176)) = true →
          R (.bool false) w1) ∧ (decide (x39_1 < (-6176)) = false →
          ∃ x44_1 : Int, w1.cell? ⟨w.heap.size, 3, none⟩ = some (.int .i64 x44_1) ∧ 
            (decide (6111 < x44_1) = true →
            R (.bool false) w1) ∧ (decide (6111 < x44_1) = false →
            Kx w1))))))
def an111 : Ann :=
  .seq (.reg (.text []))
  (.seq (.seq (.reg (.text [.p .n, .p (.sh [.int .i64])]))
  (.cond 1 2 (.seq (.reg (.text [.p .n, .p (.sh [.int .i64]), .p .n, .p .n, .gs .n 3 4, .on 4 (.p (.sh [.int .i64])) (.p .n)]))
  .leaf) .leaf))
  (.cut [] [1] (.seq (.reg (.text [.p .n, .p (.sh [.str]), .p .n, .p .n, .p .n, .gs .n 11 12, .on 12 (.p (.sh [.str])) (.p .n), .p .n, .p .n, .p .n, .p .n, .on 12 (.gs .n 13 14) (.p .n), .on 14 (.p (.sh [.str])) (.p .n), .p .n, .p .n, .p .n, .on 14 (.gs .n 15 16) (.p .n), .on 15 (.p (.sh [.str])) (.p .n), .p .n, .p .n, .p .n, .p .n, .p .n, .on 15 (.gs .n 17 18) (.p .n), .on 16 (.p (.sh [.int .i64])) (.on 18 (.p (.sh [.int .i64])) (.p .n)), .p .n, .p .n, .p .n, .on 16 (.gs .n 19 20) (.on 18 (.gs .n 19 20) (.p .n)), .on 20 (.p (.sh [.int .i64])) (.p .n)]))
  (.on 20 (.cond 21 22 (.seq (.reg (.text []))
  .leaf) .leaf) (.yes (.seq (.reg (.text []))
  .leaf))))
  (.seq (.seq (.reg (.text []))
  (.block (.loop [(3, .int .i64)] [1] (.seq (.seq (.reg (.text [.p .n, .p .n, .p (.sh [.str])]))
  (.cond 5 6 .leaf .leaf))
  (.seq (.block (.seq (.reg (.text [.p .n, .p (.sh [.str]), .p .n, .p .n, .p .n, .p .n, .gs .n 7 8, .on 8 (.p (.sh [.str])) (.p .n)]))
  (.on 8 (.cond 9 10 (.seq (.reg (.text []))
  .leaf) .leaf) (.yes (.seq (.reg (.text []))
  .leaf)))))
  (.reg (.text [])))))))
  (.seq (.reg (.text []))
  .leaf))))
theorem vcE111 (dKind : Int) (dNeg : Bool) (dDigits : List UInt8) (dExp : Int) (w : World) (R : Value → World → Prop) : vcFn prog f111 an111 [.agg ⟨[.int .i64 dKind, .bool dNeg, .string (mkS dDigits), .int .i64 dExp]⟩] w R = VC111 dKind dNeg dDigits dExp w R := by kernel_rfl
theorem c111 (dKind : Int) (dNeg : Bool) (dDigits : List UInt8) (dExp : Int) (w : World) (R : Value → World → Prop) (hvc : VC111 dKind dNeg dDigits dExp w R) : Calls prog 111 ⟨[.agg ⟨[.int .i64 dKind, .bool dNeg, .string (mkS dDigits), .int .i64 dExp]⟩]⟩ w fun e w' => ∃ v, e = .returned v ∧ R v w' :=
  vc_calls mixed (fn := f111) (ann := an111) (by kernel_rfl) ((vcE111 dKind dNeg dDigits dExp w R).symm ▸ hvc)

/- F169: spec.decTimes -/
def VC169 (hi : Int) (lo : Int) (digit : Int) (w : World) (R : Value → World → Prop) : Prop :=
  ∃ x14 : Int, bits .and .u64 lo 4294967295 = x14 ∧ 
  (0 : Int) ≤ 32 ∧ ∃ x16 : Int, Int.fdiv lo (2 ^ 32) = x16 ∧ 
  ∃ x18 : Int, bits .and .u64 hi 4294967295 = x18 ∧ 
  (0 : Int) ≤ 32 ∧ ∃ x20 : Int, Int.fdiv hi (2 ^ 32) = x20 ∧ 
  ∀ w1, w1 = w.alloc (.cells ⟨[.int .u64 0, .int .u64 0, .int .u64 0, .int .u64 0]⟩ 247) → 
  ∃ w2, (Instr.storeAt 247 (.pointer (some ⟨w.heap.size, 0, none⟩)) (.agg ⟨[.int .u64 x14, .int .u64 x16, .int .u64 x18, .int .u64 x20]⟩)).run prog w1 = .ok () w2 ∧ 
  ∃ Ix : Nat → Int → Int → World → Prop, (∃ m_2, Ix m_2 digit 0 w2) ∧
  ∀ m, ∀ carry : Int, ∀ x23 : Int, ∀ w3, Ix m carry x23 w3 →
  (decide (x23 < 4) = true →
    ((0 : Int) ≤ x23 ∧ x23 < (4 : Int)) ∧ 
      ∃ x28 : Int, w3.cell? ((⟨w.heap.size, 0, none⟩ : Addr).add (x23.toNat * 1)) = some (.int .u64 x28) ∧ 
      ∃ x29 : Int, IntKind.u64.wrap (x28 * 10) = x29 ∧ 
      ∃ x31 : Int, IntKind.u64.wrap (x29 + carry) = x31 ∧ 
      ∃ x34 : Int, bits .and .u64 x31 4294967295 = x34 ∧ 
      (0 : Int) ≤ 32 ∧ ∃ x36 : Int, Int.fdiv x31 (2 ^ 32) = x36 ∧ 
      ((0 : Int) ≤ x23 ∧ x23 < (4 : Int)) ∧ 
      CanStore w3 ((⟨w.heap.size, 0, none⟩ : Addr).add (x23.toNat * 1)) (.int .u64 x34) ∧ ∀ w4, w4 = w3.setCell ((⟨w.heap.size, 0, none⟩ : Addr).add (x23.toNat * 1)) (.int .u64 x34) → 
      ∃ x38 : Int, IntKind.i64.wrap (x23 + 1) = x38 ∧ 
      ∃ m_1, m_1 < m ∧ Ix m_1 x36 x38 w4) ∧ (decide (x23 < 4) = false →
    ((0 : Int) ≤ 2 ∧ 2 < (4 : Int)) ∧ 
      ∃ x40 : Int, w3.drew.cell? ⟨w.heap.size, 2, none⟩ = some (.int .u64 x40) ∧ 
      ((0 : Int) ≤ 3 ∧ 3 < (4 : Int)) ∧ 
      ∃ x42 : Int, w3.drew.cell? ⟨w.heap.size, 3, none⟩ = some (.int .u64 x42) ∧ 
      (0 : Int) ≤ 32 ∧ ∃ x43 : Int, IntKind.u64.wrap (x42 * 2 ^ 32) = x43 ∧ 
      ∃ x44 : Int, bits .or .u64 x40 x43 = x44 ∧ 
      ((0 : Int) ≤ 0 ∧ 0 < (4 : Int)) ∧ 
      ∃ x46 : Int, w3.drew.cell? ⟨w.heap.size, 0, none⟩ = some (.int .u64 x46) ∧ 
      ((0 : Int) ≤ 1 ∧ 1 < (4 : Int)) ∧ 
      ∃ x48 : Int, w3.drew.cell? ⟨w.heap.size, 1, none⟩ = some (.int .u64 x48) ∧ 
      (0 : Int) ≤ 32 ∧ ∃ x49 : Int, IntKind.u64.wrap (x48 * 2 ^ 32) = x49 ∧ 
      ∃ x50 : Int, bits .or .u64 x46 x49 = x50 ∧ 
      R (.tuple ⟨[.int .u64 x44, .int .u64 x50, .bool (decide (carry = 0))]⟩) w3.drew)
def an169 : Ann :=
  .seq (.reg (.text []))
  (.seq (.reg (.text []))
  (.seq (.reg (.text []))
  (.seq (.seq (.reg (.text []))
  (.block (.loop [(10, .int .u64), (23, .int .i64)] [9] (.seq (.reg (.text []))
  (.seq (.cond 1 2 .leaf .leaf)
  (.seq (.block (.seq (.reg (.text []))
  (.seq (.reg (.text [.p .n, .p .n, .p (.sh [.int .u64])]))
  (.reg (.text [])))))
  (.reg (.text []))))))))
  (.seq (.reg (.loads (.take 0 (.p .n) (.take 1 (.p (.sh [.int .u64])) (.take 2 (.p .n) (.take 3 (.p (.sh [.int .u64])) (.take 4 (.p .n) (.take 5 (.p .n) (.take 6 (.p .n) (.take 7 (.p (.sh [.int .u64])) (.take 8 (.p .n) (.take 9 (.p (.sh [.int .u64])) (.take 10 (.p .n) (.take 11 (.p .n) (.take 12 (.p .n) (.take 13 (.p .n) (.take 14 (.p .n) (.take 15 (.p .n) (.take 16 (.p .n) .done)))))))))))))))))))
  .leaf))))
theorem vcE169 (hi : Int) (lo : Int) (digit : Int) (w : World) (R : Value → World → Prop) : vcFn prog f169 an169 [.int .u64 hi, .int .u64 lo, .int .u64 digit] w R = VC169 hi lo digit w R := by kernel_rfl
theorem c169 (hi : Int) (lo : Int) (digit : Int) (w : World) (R : Value → World → Prop) (hvc : VC169 hi lo digit w R) : Calls prog 169 ⟨[.int .u64 hi, .int .u64 lo, .int .u64 digit]⟩ w fun e w' => ∃ v, e = .returned v ∧ R v w' :=
  vc_calls mixed (fn := f169) (ann := an169) (by kernel_rfl) ((vcE169 hi lo digit w R).symm ▸ hvc)

/- F112: spec.DecBits -/
def VC112 (dKind : Int) (dNeg : Bool) (dDigits : List UInt8) (dExp : Int) (w : World) (R : Value → World → Prop) : Prop :=
  ∀ w1, w1 = w.alloc (.cells ⟨[.int .i64 dKind, .bool dNeg, .string (mkS dDigits), .int .i64 dExp]⟩ 64) → 
  ∀ Kx : Int → World → Prop, (∀ sign : Int, ∀ w2,
  (∃ x11 : Int, w2.cell? ⟨w.heap.size, 0, none⟩ = some (.int .i64 x11) ∧ 
    (decide (x11 = 1) = true →
    ∃ x15 : Int, bits .or .u64 sign 8646911284551352320 = x15 ∧ 
      R (.tuple ⟨[.int .u64 x15, .int .u64 0]⟩) w2) ∧ (decide (x11 = 1) = false →
    (decide (x11 = 2) = true →
      R (.tuple ⟨[.int .u64 8935141660703064064, .int .u64 0]⟩) w2) ∧ (decide (x11 = 2) = false →
      ∃ Ix : Nat → Int → Int → Int → World → Prop, (∃ m_2, Ix m_2 0 0 0 w2) ∧
        ∀ m, ∀ hi : Int, ∀ lo : Int, ∀ i : Int, ∀ w3, Ix m hi lo i w3 →
        ∃ x20 : List UInt8, w3.cell? ⟨w.heap.size, 2, none⟩ = some (.string (mkS x20)) ∧ 
          (decide (i < (x20.length : Int)) = true →
          ∃ x29 : List UInt8, w3.cell? ⟨w.heap.size, 2, none⟩ = some (.string (mkS x29)) ∧ 
            ∃ x31 : UInt8, ((0 : Int) ≤ i ∧ x29[i.toNat]? = some x31) ∧ 
            ∃ x32 : Int, IntKind.u8.wrap ((x31.toNat : Int) - 48) = x32 ∧ 
            ∃ x33 : Int, IntKind.u64.wrap x32 = x33 ∧ 
            Calls prog 169 ⟨[.int .u64 hi, .int .u64 lo, .int .u64 x33]⟩ w3 fun e w4 => ∃ x34 : Int, ∃ x34_1 : Int, ∃ x34_2 : Bool, e = .returned (.tuple ⟨[.int .u64 x34, .int .u64 x34_1, .bool x34_2]⟩) ∧ 
            ∃ x24 : Int, IntKind.i64.wrap (i + 1) = x24 ∧ 
            ∃ m_1, m_1 < m ∧ Ix m_1 x34 x34_1 x24 w4) ∧ (decide (i < (x20.length : Int)) = false →
          ∃ x40 : Int, w3.cell? ⟨w.heap.size, 3, none⟩ = some (.int .i64 x40) ∧ 
            ∃ x41 : Int, IntKind.i64.wrap (x40 - (-6176)) = x41 ∧ 
            ∃ x42 : Int, IntKind.u64.wrap x41 = x42 ∧ 
            (0 : Int) ≤ 49 ∧ ∃ x43 : Int, IntKind.u64.wrap (x42 * 2 ^ 49) = x43 ∧ 
            ∃ x44 : Int, bits .or .u64 sign x43 = x44 ∧ 
            ∃ x46 : Int, bits .or .u64 x44 hi = x46 ∧ 
            R (.tuple ⟨[.int .u64 x46, .int .u64 lo]⟩) w3)))) → Kx sign w2) →
  ∃ x9 : Bool, w1.cell? ⟨w.heap.size, 1, none⟩ = some (.bool x9) ∧ 
  (x9 = true →
  Kx 9223372036854775808 w1) ∧ (x9 = false →
  Kx 0 w1)
def an112 : Ann :=
  .seq (.reg (.text []))
  (.seq (.reg (.text []))
  (.cut [(4, .int .u64)] [1] (.seq (.reg (.text [.p .n, .p (.sh [.bool])]))
  (.cond 7 8 (.reg (.text [])) .leaf))
  (.seq (.seq (.reg (.text [.p .n, .p (.sh [.int .i64])]))
  (.block (.seq (.reg (.text []))
  (.cond 1 2 (.seq (.reg (.text []))
  .leaf) (.seq (.reg (.text []))
  (.cond 3 4 (.seq (.reg (.text []))
  .leaf) .leaf))))))
  (.seq (.reg (.text []))
  (.seq (.seq (.reg (.text []))
  (.block (.loop [(5, .int .u64), (6, .int .u64), (7, .int .i64)] [1, 4] (.seq (.seq (.reg (.text [.p .n, .p .n, .p (.sh [.str])]))
  (.cond 5 6 .leaf .leaf))
  (.seq (.block (.reg (.text [.p .n, .p .n, .p .n, .p (.sh [.str]), .p .n, .p .n, .p .n, .p .n, .p (.sh [.int .u64, .int .u64, .bool])])))
  (.reg (.text [])))))))
  (.seq (.reg (.text [.p .n, .p .n, .p (.sh [.int .i64])]))
  .leaf))))))
theorem vcE112 (dKind : Int) (dNeg : Bool) (dDigits : List UInt8) (dExp : Int) (w : World) (R : Value → World → Prop) : vcFn prog f112 an112 [.agg ⟨[.int .i64 dKind, .bool dNeg, .string (mkS dDigits), .int .i64 dExp]⟩] w R = VC112 dKind dNeg dDigits dExp w R := by kernel_rfl
theorem c112 (dKind : Int) (dNeg : Bool) (dDigits : List UInt8) (dExp : Int) (w : World) (R : Value → World → Prop) (hvc : VC112 dKind dNeg dDigits dExp w R) : Calls prog 112 ⟨[.agg ⟨[.int .i64 dKind, .bool dNeg, .string (mkS dDigits), .int .i64 dExp]⟩]⟩ w fun e w' => ∃ v, e = .returned v ∧ R v w' :=
  vc_calls mixed (fn := f112) (ann := an112) (by kernel_rfl) ((vcE112 dKind dNeg dDigits dExp w R).symm ▸ hvc)

/- F65: spec.decNumber -/
def VC65 (nx : Int) (w : World) (R : Value → World → Prop) : Prop :=
  (decide (nx < 0) = true →
  ∃ x6 : Int, IntKind.i64.wrap (0 - nx) = x6 ∧ 
    Calls prog 65 ⟨[.int .i64 x6]⟩ w fun e w1 => ∃ x7 : List UInt8, e = .returned (.string (mkS x7)) ∧ 
    [45].length + x7.length ≤ 9223372036854775807 ∧ 
    R (.string (mkS ([45] ++ x7))) w1) ∧ (decide (nx < 0) = false →
  (decide (nx < 10) = true →
    ∃ x12 : Int, IntKind.i64.wrap (48 + nx) = x12 ∧ 
      ∃ x13 : Int, IntKind.u8.wrap x12 = x13 ∧ 
      ∀ w2, w2 = w.alloc (.cells ⟨[.int .u8 x13]⟩ 5) → 
      ∃ x15 : List UInt8, ∃ w3, (convert 23 9 (.slice (some (⟨w.heap.size, 0, none⟩)) 1 1)).run prog w2 = .ok (.string (mkS x15)) w3 ∧ 
      R (.string (mkS x15)) w3) ∧ (decide (nx < 10) = false →
    ∃ f : List (Addr × Value), Kept w f ∧
      (10 : Int) ≠ 0 ∧ ∃ x17 : Int, IntKind.i64.wrap (Int.tdiv nx 10) = x17 ∧ 
      (10 : Int) ≠ 0 ∧ ∃ x20 : Int, Int.tmod nx 10 = x20 ∧ 
      ∃ x21 : Int, IntKind.i64.wrap (48 + x20) = x21 ∧ 
      ∃ x22 : Int, IntKind.u8.wrap x21 = x22 ∧ 
      (Calls prog 65 ⟨[.int .i64 x17]⟩ w.drew fun e w4 => ∃ x18 : List UInt8, e = .returned (.string (mkS x18)) ∧ 
      ∀ w5, w5 = w4.alloc (.cells ⟨[.int .u8 x22]⟩ 5) → 
      ∃ x24 : List UInt8, ∃ w6, (convert 23 9 (.slice (some (⟨w4.heap.size, 0, none⟩)) 1 1)).run prog w5 = .ok (.string (mkS x24)) w6 ∧ 
      x18.length + x24.length ≤ 9223372036854775807 ∧ 
      R (.string (mkS (x18 ++ x24))) w6) ∧ (∀ w7, w7 = w.drew.alloc (.cells ⟨[.int .u8 x22]⟩ 5) → 
      (Calls prog 65 ⟨[.int .i64 x17]⟩ w7 fun e w8 => ∃ x18_1 : List UInt8, e = .returned (.string (mkS x18_1)) ∧ 
      ∃ x24_1 : List UInt8, ∃ w9, (convert 23 9 (.slice (some (⟨w.drew.heap.size, 0, none⟩)) 1 1)).run prog w8 = .ok (.string (mkS x24_1)) w9 ∧ 
      x18_1.length + x24_1.length ≤ 9223372036854775807 ∧ 
      R (.string (mkS (x18_1 ++ x24_1))) w9) ∧ (∃ x24_2 : List UInt8, ∃ w10, (convert 23 9 (.slice (some (⟨w.drew.heap.size, 0, none⟩)) 1 1)).run prog w7 = .ok (.string (mkS x24_2)) w10 ∧ 
      Calls prog 65 ⟨[.int .i64 x17]⟩ w10 fun e w11 => ∃ x18_2 : List UInt8, e = .returned (.string (mkS x18_2)) ∧ 
      x18_2.length + x24_2.length ≤ 9223372036854775807 ∧ 
      R (.string (mkS (x18_2 ++ x24_2))) w11))))
def an65 : Ann :=
  .seq (.reg (.text []))
  (.seq (.seq (.reg (.text []))
  (.cond 1 2 (.seq (.reg (.text [.p .n, .p .n, .p (.sh [.str])]))
  .leaf) .leaf))
  (.seq (.seq (.reg (.text []))
  (.cond 3 4 (.seq (.reg (.text [.p .n, .p .n, .p .n, .p .n, .p (.sh [.str])]))
  .leaf) .leaf))
  (.seq (.reg (.held [2, 7, 8] (.take 0 (.p .n) (.take 1 (.p .n) (.take 3 (.p .n) (.take 4 (.p .n) (.take 5 (.p .n) (.take 6 (.p .n) (.run 2 (.p (.sh [.str])) (.run 7 (.p .n) (.run 8 (.p (.sh [.str])) (.take 9 (.p .n) (.take 10 (.p .n) .done)) .done) .done) (.run 7 (.p .n) (.run 2 (.p (.sh [.str])) (.run 8 (.p (.sh [.str])) (.take 9 (.p .n) (.take 10 (.p .n) .done)) .done) (.run 8 (.p (.sh [.str])) (.run 2 (.p (.sh [.str])) (.take 9 (.p .n) (.take 10 (.p .n) .done)) .done) .done)) .done))))))))))
  .leaf)))
theorem vcE65 (nx : Int) (w : World) (R : Value → World → Prop) : vcFn prog f65 an65 [.int .i64 nx] w R = VC65 nx w R := by kernel_rfl
theorem c65 (nx : Int) (w : World) (R : Value → World → Prop) (hvc : VC65 nx w R) : Calls prog 65 ⟨[.int .i64 nx]⟩ w fun e w' => ∃ v, e = .returned v ∧ R v w' :=
  vc_calls mixed (fn := f65) (ann := an65) (by kernel_rfl) ((vcE65 nx w R).symm ▸ hvc)

/- F37: spec.DecText -/
def VC37 (dKind : Int) (dNeg : Bool) (dDigits : List UInt8) (dExp : Int) (w : World) (R : Value → World → Prop) : Prop :=
  ∀ w1, w1 = w.alloc (.cells ⟨[.int .i64 dKind, .bool dNeg, .string (mkS dDigits), .int .i64 dExp]⟩ 64) → 
  ∀ Kx : List UInt8 → World → Prop, (∀ sign : List UInt8, ∀ w2,
  (∃ x11 : Int, w2.cell? ⟨w.heap.size, 0, none⟩ = some (.int .i64 x11) ∧ 
    (decide (x11 = 2) = true →
    R (.string (mkS [78, 97, 78])) w2) ∧ (decide (x11 = 2) = false →
    (decide (x11 = 1) = true →
      sign.length + [73, 110, 102, 105, 110, 105, 116, 121].length ≤ 9223372036854775807 ∧ 
        R (.string (mkS (sign ++ [73, 110, 102, 105, 110, 105, 116, 121]))) w2) ∧ (decide (x11 = 1) = false →
      ∃ x19 : List UInt8, w2.cell? ⟨w.heap.size, 2, none⟩ = some (.string (mkS x19)) ∧ 
        ∃ x21 : Int, w2.cell? ⟨w.heap.size, 3, none⟩ = some (.int .i64 x21) ∧ 
        ∃ x24 : Int, IntKind.i64.wrap (x21 + (x19.length : Int)) = x24 ∧ 
        ∃ x25 : Int, IntKind.i64.wrap (x24 - 1) = x25 ∧ 
        ∀ Kx_1 : Bool → World → Prop, (∀ x32 : Bool, ∀ w3,
        ((x32 = true →
          ((0 : Int) ≤ 1 ∧ 1 ≤ (x19.length : Int)) ∧ 
            ∀ Kx_2 : List UInt8 → World → Prop, (∀ out : List UInt8, ∀ w4,
            ((decide (0 ≤ x25) = true →
              sign.length + out.length ≤ 9223372036854775807 ∧ 
                (sign ++ out).length + [69, 43].length ≤ 9223372036854775807 ∧ 
                Calls prog 65 ⟨[.int .i64 x25]⟩ w4 fun e w5 => ∃ x50 : List UInt8, e = .returned (.string (mkS x50)) ∧ 
                ((sign ++ out) ++ [69, 43]).length + x50.length ≤ 9223372036854775807 ∧ 
                R (.string (mkS (((sign ++ out) ++ [69, 43]) ++ x50))) w5) ∧ (decide (0 ≤ x25) = false →
              sign.length + out.length ≤ 9223372036854775807 ∧ 
                (sign ++ out).length + [69].length ≤ 9223372036854775807 ∧ 
                Calls prog 65 ⟨[.int .i64 x25]⟩ w4 fun e w6 => ∃ x57 : List UInt8, e = .returned (.string (mkS x57)) ∧ 
                ((sign ++ out) ++ [69]).length + x57.length ≤ 9223372036854775807 ∧ 
                R (.string (mkS (((sign ++ out) ++ [69]) ++ x57))) w6)) → Kx_2 out w4) →
            (decide (1 < (x19.length : Int)) = true →
            ((0 : Int) ≤ 1 ∧ 1 ≤ (x19.length : Int)) ∧ 
              [46].length + (x19.drop 1).length ≤ 9223372036854775807 ∧ 
              (x19.take 1).length + ([46] ++ (x19.drop 1)).length ≤ 9223372036854775807 ∧ 
              Kx_2 ((x19.take 1) ++ ([46] ++ (x19.drop 1))) w3) ∧ (decide (1 < (x19.length : Int)) = false →
            Kx_2 (x19.take 1) w3)) ∧ (x32 = false →
          ∃ x60 : Int, w3.cell? ⟨w.heap.size, 3, none⟩ = some (.int .i64 x60) ∧ 
            (decide (x60 = 0) = true →
            sign.length + x19.length ≤ 9223372036854775807 ∧ 
              R (.string (mkS (sign ++ x19))) w3) ∧ (decide (x60 = 0) = false →
            ∃ Ix : Nat → List UInt8 → World → Prop, (∃ m_2, Ix m_2 x19 w3) ∧
              ∀ m, ∀ s : List UInt8, ∀ w7, Ix m s w7 →
              ∃ x68 : Int, w7.cell? ⟨w.heap.size, 3, none⟩ = some (.int .i64 x68) ∧ 
                ∃ x69 : Int, IntKind.i64.wrap (0 - x68) = x69 ∧ 
                (decide ((s.length : Int) ≤ x69) = true →
                [48].length + s.length ≤ 9223372036854775807 ∧ 
                  ∃ m_1, m_1 < m ∧ Ix m_1 ([48] ++ s) w7) ∧ (decide ((s.length : Int) ≤ x69) = false →
                ∃ x76 : Int, w7.cell? ⟨w.heap.size, 3, none⟩ = some (.int .i64 x76) ∧ 
                  ∃ x77 : Int, IntKind.i64.wrap ((s.length : Int) + x76) = x77 ∧ 
                  (0 ≤ x77 ∧ x77 ≤ (s.length : Int)) ∧ 
                  sign.length + (s.take x77.toNat).length ≤ 9223372036854775807 ∧ 
                  (sign ++ (s.take x77.toNat)).length + [46].length ≤ 9223372036854775807 ∧ 
                  (0 ≤ x77 ∧ x77 ≤ (s.length : Int)) ∧ 
                  ((sign ++ (s.take x77.toNat)) ++ [46]).length + (s.drop x77.toNat).length ≤ 9223372036854775807 ∧ 
                  R (.string (mkS (((sign ++ (s.take x77.toNat)) ++ [46]) ++ (s.drop x77.toNat)))) w7.drew)))) → Kx_1 x32 w3) →
        ∃ x27 : Int, w2.cell? ⟨w.heap.size, 3, none⟩ = some (.int .i64 x27) ∧ 
        (decide (0 < x27) = true →
        Kx_1 true w2) ∧ (decide (0 < x27) = false →
        Kx_1 (decide (x25 < (-6))) w2)))) → Kx sign w2) →
  ∃ x9 : Bool, w1.cell? ⟨w.heap.size, 1, none⟩ = some (.bool x9) ∧ 
  (x9 = true →
  Kx [45] w1) ∧ (x9 = false →
  Kx [] w1)
def an37 : Ann :=
  .seq (.reg (.text []))
  (.seq (.reg (.text []))
  (.cut [(3, .str)] [1] (.seq (.reg (.text [.p .n, .p (.sh [.bool])]))
  (.cond 17 18 (.reg (.text [])) .leaf))
  (.seq (.seq (.reg (.text [.p .n, .p (.sh [.int .i64])]))
  (.block (.seq (.reg (.text []))
  (.cond 1 2 (.seq (.reg (.text []))
  .leaf) (.seq (.reg (.text []))
  (.cond 3 4 (.seq (.reg (.text []))
  .leaf) .leaf))))))
  (.seq (.reg (.text [.p .n, .p (.sh [.str])]))
  (.seq (.reg (.text [.p .n, .p (.sh [.int .i64])]))
  (.seq (.cut [(32, .bool)] [1, 3, 4, 5] (.reg (.text [.p .n, .p (.sh [.int .i64]), .p .n, .p .n, .gs .n 15 16]))
  (.cond 5 6 (.seq (.reg (.text []))
  (.cut [(6, .str)] [3, 5] (.seq (.reg (.text []))
  (.cond 9 10 (.reg (.text [])) .leaf))
  (.seq (.seq (.reg (.text []))
  (.cond 7 8 (.seq (.reg (.text [.p .n, .p .n, .p .n, .p .n, .p .n, .p (.sh [.str])]))
  .leaf) .leaf))
  (.seq (.reg (.text [.p .n, .p .n, .p .n, .p .n, .p .n, .p (.sh [.str])]))
  .leaf)))) .leaf))
  (.seq (.seq (.reg (.text [.p .n, .p (.sh [.int .i64])]))
  (.cond 11 12 (.seq (.reg (.text []))
  .leaf) .leaf))
  (.seq (.block (.loop [(4, .str)] [1, 3] (.seq (.seq (.reg (.text [.p .n, .p .n, .p .n, .p (.sh [.int .i64])]))
  (.cond 13 14 .leaf .leaf))
  (.block (.reg (.text []))))))
  (.seq (.reg (.text [.p .n, .p .n, .p .n, .p (.sh [.int .i64])]))
  (.seq (.reg (.loads (.take 0 (.p .n) (.take 1 (.p .n) (.take 2 (.p .n) (.take 3 (.p .n) (.take 4 (.p .n) (.take 5 (.p .n) (.take 6 (.p .n) (.take 7 (.p .n) (.take 8 (.p .n) (.take 9 (.p .n) (.take 10 (.p .n) .done)))))))))))))
  .leaf))))))))))
theorem vcE37 (dKind : Int) (dNeg : Bool) (dDigits : List UInt8) (dExp : Int) (w : World) (R : Value → World → Prop) : vcFn prog f37 an37 [.agg ⟨[.int .i64 dKind, .bool dNeg, .string (mkS dDigits), .int .i64 dExp]⟩] w R = VC37 dKind dNeg dDigits dExp w R := by kernel_rfl
theorem c37 (dKind : Int) (dNeg : Bool) (dDigits : List UInt8) (dExp : Int) (w : World) (R : Value → World → Prop) (hvc : VC37 dKind dNeg dDigits dExp w R) : Calls prog 37 ⟨[.agg ⟨[.int .i64 dKind, .bool dNeg, .string (mkS dDigits), .int .i64 dExp]⟩]⟩ w fun e w' => ∃ v, e = .returned v ∧ R v w' :=
  vc_calls mixed (fn := f37) (ann := an37) (by kernel_rfl) ((vcE37 dKind dNeg dDigits dExp w R).symm ▸ hvc)

end Go.Proofs.Tryz
/- The reference's numbers in decimal of 128 bits: a tenth, the digits. -/
set_option linter.unusedVariables false
namespace Go.Proofs.Tryz
open Go.Vc Go.RowKit

theorem n247 : cellsOf' prog 247 = some 4 := by kernel_rfl
theorem n64 : cellsOf' prog 64 = some 4 := by kernel_rfl
theorem u64_mask (a j : Nat) (ha : a < 18446744073709551616) (hj : j ≤ 64) : bits .and .u64 (a : Int) ((2 ^ j - 1 : Nat) : Int) = ((a % 2 ^ j : Nat) : Int) := by
  have hp : 2 ^ j ≤ 2 ^ 64 := Nat.pow_le_pow_right (by decide) hj
  have h0 : 0 < 2 ^ j := Nat.two_pow_pos j
  rw [bits_and_u64_nat a (2 ^ j - 1) ha (by omega), Nat.and_two_pow_sub_one_eq_mod]
theorem u64_join (a b j : Nat) (ha : a < 18446744073709551616) (h : a % 2 ^ j = 0) (hb : b < 2 ^ j) (hb' : b < 18446744073709551616) : bits .or .u64 (a : Int) (b : Int) = ((a + b : Nat) : Int) := by
  rw [bits_or_u64_nat a b ha hb']
  have hq : a = 2 ^ j * (a / 2 ^ j) := by
    have := Nat.div_add_mod a (2 ^ j)
    omega
  congr 1
  rw [hq, ← Nat.two_pow_add_eq_or_of_lt hb (a / 2 ^ j)]

def limb (hi lo : Nat) : Nat → Nat
  | 0 => hi / 4294967296
  | 1 => hi % 4294967296
  | 2 => lo / 4294967296
  | _ => lo % 4294967296
def remT (hi lo : Nat) : Nat → Nat
  | 0 => 0
  | k + 1 => (remT hi lo k * 4294967296 + limb hi lo k) % 10
def quoT (hi lo k : Nat) : Nat := (remT hi lo k * 4294967296 + limb hi lo k) / 10
def cellT (L Q : Nat → Nat) (k j : Nat) : Value := .int .u64 ((if j < k then Q j else L j : Nat) : Int)
def rowT (L Q : Nat → Nat) (k : Nat) : List Value := [cellT L Q k 0, cellT L Q k 1, cellT L Q k 2, cellT L Q k 3]

def B64 : Nat := 18446744073709551616
theorem B64_pos : 0 < B64 := Nat.zero_lt_succ _
def num (hi lo : Nat) : Nat := hi * B64 + lo
theorem tenth_lo {c d q2 q3 r2 r3 r4 : Nat} (e2 : r2 * 4294967296 + c = 10 * q2 + r3) (e3 : r3 * 4294967296 + d = 10 * q3 + r4) :
    r2 * B64 + (c * 4294967296 + d) = 10 * (q2 * 4294967296 + q3) + r4 := by
  have hB : B64 = 4294967296 * 4294967296 := rfl
  rw [hB, ← Nat.mul_assoc, ← Nat.add_assoc, ← Nat.add_mul, e2, Nat.add_mul, Nat.add_assoc, e3, Nat.mul_assoc, Nat.mul_add, Nat.add_assoc]
theorem tenth_lin {hi lo P Q r2 r4 : Nat} (h1 : hi = 10 * P + r2) (h2 : r2 * B64 + lo = 10 * Q + r4) : num hi lo = 10 * (P * B64 + Q) + r4 := by
  unfold num
  rw [h1, Nat.add_mul, Nat.add_assoc, h2, Nat.mul_assoc, Nat.mul_add, Nat.add_assoc]
theorem fin_math (B N P Q r : Nat) (lin : N = 10 * (P * B + Q) + r) (hr : r < 10) (hQ : Q < B) : N / 10 / B = P ∧ N / 10 % B = Q ∧ N % 10 = r := by
  have h1 : N / 10 = P * B + Q := by omega
  have h2 : N % 10 = r := by omega
  rw [h1, h2]
  have hB : 0 < B := by omega
  refine ⟨?_, ?_, rfl⟩
  · rw [Nat.add_comm, Nat.add_mul_div_right _ _ hB, Nat.div_eq_of_lt hQ, Nat.zero_add]
  · rw [Nat.add_comm, Nat.add_mul_mod_self_right, Nat.mod_eq_of_lt hQ]
theorem tenth_hi {a b q0 q1 r1 r2 : Nat} (s0 : a = 10 * q0 + r1) (s1 : r1 * 4294967296 + b = 10 * q1 + r2) : a * 4294967296 + b = 10 * (q0 * 4294967296 + q1) + r2 := by
  rw [s0, Nat.add_mul, Nat.add_assoc, s1, Nat.mul_assoc, Nat.mul_add, Nat.add_assoc]
theorem tenth_fin {L Q R : Nat → Nat} {hi lo : Nat} (step : ∀ k, R k * 4294967296 + L k = 10 * Q k + R (k + 1)) (rl : ∀ k, R k < 10) (ll : ∀ k, L k < 4294967296) (r0 : R 0 = 0)
    (hhi : L 0 * 4294967296 + L 1 = hi) (hlo : L 2 * 4294967296 + L 3 = lo) :
    (∀ k, Q k < 4294967296) ∧ Q 0 * 4294967296 + Q 1 = num hi lo / 10 / B64 ∧ Q 2 * 4294967296 + Q 3 = num hi lo / 10 % B64 ∧ R 4 = num hi lo % 10 := by
  have ql : ∀ k, Q k < 4294967296 := fun k => by have h1 := step k; have h2 := rl k; have h3 := ll k; omega
  have s0 := step 0
  have s1 := step 1
  rw [r0, Nat.zero_mul, Nat.zero_add] at s0
  have hP : hi = 10 * (Q 0 * 4294967296 + Q 1) + R 2 := hhi.symm.trans (tenth_hi s0 s1)
  have hQ := tenth_lo (step 2) (step 3)
  rw [hlo] at hQ
  have lin := tenth_lin hP hQ
  have q2 := ql 2
  have q3 := ql 3
  have hcd : Q 2 * 4294967296 + Q 3 < B64 := by
    have : B64 = 4294967295 * 4294967296 + 4294967296 := rfl
    rw [this]; omega
  obtain ⟨a1, a2, a3⟩ := fin_math B64 (num hi lo) _ _ _ lin (rl 4) hcd
  exact ⟨ql, a1.symm, a2.symm, a3.symm⟩
theorem tenth_ex (hi lo : Nat) (h1 : hi < 18446744073709551616) (h2 : lo < 18446744073709551616) : ∃ L Q R : Nat → Nat, L 0 = hi / 4294967296 ∧ L 1 = hi % 4294967296 ∧ L 2 = lo / 4294967296 ∧ L 3 = lo % 4294967296 ∧ R 0 = 0 ∧
    (∀ k, R k * 4294967296 + L k = 10 * Q k + R (k + 1)) ∧ (∀ k, R k < 10) ∧ (∀ k, L k < 4294967296) ∧
    (∀ k, Q k < 4294967296) ∧ Q 0 * 4294967296 + Q 1 = num hi lo / 10 / B64 ∧ Q 2 * 4294967296 + Q 3 = num hi lo / 10 % B64 ∧ R 4 = num hi lo % 10 := by
  have step : ∀ k, remT hi lo k * 4294967296 + limb hi lo k = 10 * quoT hi lo k + remT hi lo (k + 1) := fun k => (Nat.div_add_mod _ 10).symm
  have rl : ∀ k, remT hi lo k < 10 := fun k => by
    cases k with
    | zero => exact Nat.zero_lt_succ 9
    | succ k => exact Nat.mod_lt _ (Nat.zero_lt_succ 9)
  have hm : ∀ a : Nat, a % 4294967296 < 4294967296 := fun a => by omega
  have hd : ∀ a : Nat, a < 18446744073709551616 → a / 4294967296 < 4294967296 := fun a h => by omega
  have hdm : ∀ a : Nat, a / 4294967296 * 4294967296 + a % 4294967296 = a := fun a => by omega
  have ll : ∀ k, limb hi lo k < 4294967296 := fun k => by
    match k with
    | 0 => exact hd hi h1
    | 1 => exact hm hi
    | 2 => exact hd lo h2
    | k + 3 => exact hm lo
  have f := tenth_fin step rl ll rfl (hdm hi) (hdm lo)
  exact ⟨limb hi lo, quoT hi lo, remT hi lo, rfl, rfl, rfl, rfl, rfl, step, rl, ll, f.1, f.2.1, f.2.2.1, f.2.2.2⟩
theorem fdiv32 (a : Nat) : Int.fdiv (a : Int) (2 ^ 32) = ((a / 4294967296 : Nat) : Int) := fdiv_nat a 32
theorem mask32 (a : Nat) (h : a < 18446744073709551616) : bits .and .u64 (a : Int) 4294967295 = ((a % 4294967296 : Nat) : Int) := u64_mask a 32 h (by decide)
theorem ret122 (hi lo : Nat) (h1 : hi < 18446744073709551616) (h2 : lo < 18446744073709551616) (w : World) :
    Ret 122 [.int .u64 (hi : Int), .int .u64 (lo : Int)] w (.tuple ⟨[.int .u64 ((num hi lo / 10 / B64 : Nat) : Int), .int .u64 ((num hi lo / 10 % B64 : Nat) : Int), .int .u8 ((num hi lo % 10 : Nat) : Int)]⟩) := by
  refine Ret.of (c122 _ _ w _ ?_)
  unfold VC122
  obtain ⟨L, Q, R, l0, l1, l2, l3, r0, step, rl, ll, ql, t1, t2, t3⟩ := tenth_ex hi lo h1 h2
  have m1 := mask32 hi h1
  have m2 := mask32 lo h2
  have f1 := fdiv32 hi
  have f2 := fdiv32 lo
  rw [← l1] at m1
  rw [← l3] at m2
  rw [← l0] at f1
  rw [← l2] at f2
  rw [← t1, ← t2, ← t3]
  clear t1 t2 t3 l0 l1 l2 l3
  refine ⟨by decide, _, f1, _, m1, by decide, _, f2, _, m2, fun w1 hw1 => ?_⟩
  obtain ⟨w2, hst, hk2, hs2, hv2⟩ := store_new (t := 247) (cs := rowT L Q 0) hw1 n247 rfl rfl rfl
  refine ⟨w2, hst, fun m left i w3 => Keeps w w3 ∧ ∃ k : Nat, i = k ∧ k ≤ 4 ∧ m = 4 - k ∧ left = (R k : Nat) ∧ Var w3 w.heap.size 247 (rowT L Q k), ⟨4, hk2, 0, rfl, by decide, rfl, by rw [r0]; rfl, hv2⟩, ?_⟩
  rintro m left i w3 ⟨hk3, k, rfl, hk4, rfl, rfl, hv3⟩
  have hrem := rl k
  refine ⟨fun h => ?_, fun h => ?_⟩
  · simp only [decide_eq_true_eq] at h
    have hklt : k < 4 := by omega
    have hlimb := ll k
    have hst := step k
    have hq := ql k
    have hr1 := rl (k + 1)
    have hcell : (rowT L Q k)[k]? = some (.int .u64 ((L k : Nat) : Int)) := by
      rcases (show k = 0 ∨ k = 1 ∨ k = 2 ∨ k = 3 by omega) with rfl | rfl | rfl | rfl <;> rfl
    have hset : (rowT L Q k).set k (.int .u64 ((Q k : Nat) : Int)) = rowT L Q (k + 1) := by
      rcases (show k = 0 ∨ k = 1 ∨ k = 2 ∨ k = 3 by omega) with rfl | rfl | rfl | rfl <;> rfl
    have ek : (k : Int).toNat * 1 = k := by simp
    rw [ek, add_at, Nat.zero_add]
    have e1 : (R k : Int) * 2 ^ 32 = ((R k * 4294967296 : Nat) : Int) := by omega
    have hj := u64_join (R k * 4294967296) (L k) 32 (by omega) (by omega) (by omega) (by omega)
    rw [hst] at hj
    have hdiv : Int.tdiv ((10 * Q k + R (k + 1) : Nat) : Int) 10 = ((Q k : Nat) : Int) := by
      rw [Int.tdiv_eq_ediv_of_nonneg (by omega)]; omega
    have hmod : Int.tmod ((10 * Q k + R (k + 1) : Nat) : Int) 10 = ((R (k + 1) : Nat) : Int) := by
      rw [Int.tmod_eq_emod_of_nonneg (by omega)]; omega
    refine ⟨by decide, ((R k * 4294967296 : Nat) : Int), by rw [e1]; exact u64w (by omega) (by omega), ⟨by omega, by omega⟩, _, hv3.lies.at k hcell (by omega), _, hj, by decide, ((Q k : Nat) : Int), by rw [hdiv]; exact u64w (by omega) (by omega), by decide, _, hmod, ⟨by omega, by omega⟩, hv3.can (by simpa [rowT] using hklt) rfl, fun w4 hw4 => ?_⟩
    refine ⟨_, i64w (by omega) (by omega), 4 - (k + 1), by omega, ?_, k + 1, by omega, by omega, rfl, rfl, ?_⟩
    · rw [hw4]; exact Below.setCell hk3 (Nat.le_refl _) _
    · rw [hw4, ← hset]; exact hv3.set k _
  · simp only [decide_eq_false_iff_not] at h
    have hk : k = 4 := by omega
    subst hk
    have c0 : w3.drew.cell? ⟨w.heap.size, 0, none⟩ = some (.int .u64 ((Q 0 : Nat) : Int)) := hv3.lies.at 0 rfl rfl
    have c1 : w3.drew.cell? ⟨w.heap.size, 1, none⟩ = some (.int .u64 ((Q 1 : Nat) : Int)) := hv3.lies.at 1 rfl rfl
    have c2 : w3.drew.cell? ⟨w.heap.size, 2, none⟩ = some (.int .u64 ((Q 2 : Nat) : Int)) := hv3.lies.at 2 rfl rfl
    have c3 : w3.drew.cell? ⟨w.heap.size, 3, none⟩ = some (.int .u64 ((Q 3 : Nat) : Int)) := hv3.lies.at 3 rfl rfl
    have q0 := ql 0
    have q1 := ql 1
    have q2 := ql 2
    have q3 := ql 3
    have e1 : (Q 0 : Int) * 2 ^ 32 = ((Q 0 * 4294967296 : Nat) : Int) := by omega
    have e2 : (Q 2 : Int) * 2 ^ 32 = ((Q 2 * 4294967296 : Nat) : Int) := by omega
    have j1 := u64_join (Q 0 * 4294967296) (Q 1) 32 (by omega) (by omega) (by omega) (by omega)
    have j2 := u64_join (Q 2 * 4294967296) (Q 3) 32 (by omega) (by omega) (by omega) (by omega)
    exact ⟨by decide, _, c0, by decide, ((Q 0 * 4294967296 : Nat) : Int), by rw [e1]; exact u64w (by omega) (by omega), by decide, _, c1, _, j1, by decide, _, c2, by decide, ((Q 2 * 4294967296 : Nat) : Int), by rw [e2]; exact u64w (by omega) (by omega), by decide, _, c3, _, j2, _, u8w (by omega) (by omega), rfl, hk3.drew⟩
end Go.Proofs.Tryz
/- The reference's numbers in decimal of 128 bits: the digits, what 128 bits say. -/
set_option linter.unusedVariables false
namespace Go.Proofs.Tryz
open Go.Vc Go.RowKit

def digsG : Nat → Nat → List UInt8
  | 0, _ => []
  | f + 1, n => if n = 0 then [] else digsG f (n / 10) ++ [UInt8.ofNat (48 + n % 10)]
/-- A number's decimal digits; none for 0. -/
def digs (n : Nat) : List UInt8 := digsG n n
theorem digsG_fuel : ∀ (f g n : Nat), n ≤ f → n ≤ g → digsG f n = digsG g n
  | 0, g, n, hf, hg => by
    have : n = 0 := by omega
    subst this; cases g <;> simp [digsG]
  | f + 1, 0, n, hf, hg => by
    have : n = 0 := by omega
    subst this; simp [digsG]
  | f + 1, g + 1, n, hf, hg => by
    simp only [digsG]
    split
    · rfl
    · rw [digsG_fuel f g (n / 10) (by omega) (by omega)]
theorem digs_zero : digs 0 = [] := rfl
theorem digs_step (n : Nat) (h : n ≠ 0) : digs n = digs (n / 10) ++ [UInt8.ofNat (48 + n % 10)] := by
  unfold digs
  obtain ⟨m, rfl⟩ : ∃ m, n = m + 1 := ⟨n - 1, by omega⟩
  simp only [digsG, if_neg h]
  rw [digsG_fuel m ((m + 1) / 10) _ (by omega) (Nat.le_refl _)]
theorem digs_len : ∀ (k n : Nat), (digs n).length ≤ k ↔ n < 10 ^ k
  | 0, n => by
    by_cases h : n = 0
    · subst h; simp [digs_zero]
    · rw [digs_step n h]; simp; omega
  | k + 1, n => by
    by_cases h : n = 0
    · subst h; simp [digs_zero]; exact Nat.pow_pos (by decide)
    · rw [digs_step n h, List.length_append, List.length_singleton, Nat.add_le_add_iff_right, digs_len k (n / 10), Nat.pow_succ]
      omega
def decF (n : Nat) : List UInt8 := if n = 0 then [48] else digs n

theorem num_lt {hi lo : Nat} (h1 : hi < 18446744073709551616) (h2 : lo < 18446744073709551616) : num hi lo < B64 * B64 := by
  have e1 : hi + 1 ≤ B64 := h1
  have e2 : lo < B64 := h2
  have : (hi + 1) * B64 ≤ B64 * B64 := Nat.mul_le_mul_right _ e1
  unfold num
  rw [Nat.add_mul, Nat.one_mul] at this
  omega
theorem num_split (N : Nat) : num (N / B64) (N % B64) = N := by
  unfold num; rw [Nat.mul_comm]; exact Nat.div_add_mod N B64
theorem num_zero {hi lo : Nat} : num hi lo = 0 ↔ hi = 0 ∧ lo = 0 := by
  unfold num
  constructor
  · intro h
    have h1 : hi * B64 = 0 := by omega
    rcases Nat.mul_eq_zero.1 h1 with h1 | h1
    · exact ⟨h1, by omega⟩
    · exact absurd h1 (Nat.ne_of_gt B64_pos)
  · rintro ⟨rfl, rfl⟩; simp
theorem tenth_hi_lt {N : Nat} (h : N < B64 * B64) : N / 10 / B64 < 18446744073709551616 := by
  have : N / 10 / B64 < B64 := Nat.div_lt_of_lt_mul (Nat.lt_of_le_of_lt (Nat.div_le_self _ _) h)
  exact this
theorem tenth_lo_lt (N : Nat) : N / 10 % B64 < 18446744073709551616 := Nat.mod_lt _ B64_pos

theorem Own.nilcap {B : Nat} {w : World} {p : Option Addr} {n c : Nat} {l : List UInt8} (h : Own B w p n c l) (hp : p = none) : c = 0 := by
  subst hp
  rcases h.1.2 with ⟨hv, _⟩ | ⟨g, cap, cur, hv, _⟩
  · cases hv; rfl
  · cases hv

theorem ret66 (hi lo : Nat) (h1 : hi < 18446744073709551616) (h2 : lo < 18446744073709551616) (w : World) : Ret 66 [.int .u64 (hi : Int), .int .u64 (lo : Int)] w (.string (mkS (decF (num hi lo)))) := by
  refine Ret.of (c66 _ _ w _ ?_)
  unfold VC66
  have hlt := num_lt h1 h2
  have hz := @num_zero hi lo
  have hL : (digs (num hi lo)).length ≤ 40 := (digs_len 40 _).2 (Nat.lt_of_lt_of_le hlt (by decide))
  intro Kx hK
  have key : num hi lo ≠ 0 → ∀ w1, w1 = w → Kx w1 := by
    rintro hne w1 rfl
    refine hK w1 ?_
    refine ⟨fun m h l p n c w2 => Keeps w1 w2 ∧ ∃ (a b : Nat) (acc : List UInt8), h = a ∧ l = b ∧ a < 18446744073709551616 ∧ b < 18446744073709551616 ∧ m = num a b ∧ Own w1.heap.size w2 p n c acc ∧ digs (num hi lo) = digs (num a b) ++ acc,
      ⟨num hi lo, Keeps.refl _, hi, lo, [], rfl, rfl, h1, h2, rfl, Own.nil _ _, by simp⟩, ?_⟩
    rintro m h l p n c w2 ⟨hk2, a, b, acc, rfl, rfl, ha, hb, rfl, ho, hd⟩
    intro K1 hK1
    have hacc : acc.length ≤ 40 := by have := congrArg List.length hd; rw [List.length_append] at this; omega
    have k1 : num a b ≠ 0 → K1 w2 := by
      intro hnz
      refine hK1 w2 ?_
      have hab := num_lt ha hb
      have hlt10 : num a b % 10 < 10 := Nat.mod_lt _ (by decide)
      have ea := tenth_hi_lt hab
      have eb := tenth_lo_lt (num a b)
      have esp := num_split (num a b / 10)
      have hstep := digs_step (num a b) hnz
      refine (ret122 a b ha hb w2).go fun w4 hk4 => ⟨_, _, _, rfl, ?_⟩
      have hdl : num a b / 10 < num a b := Nat.div_lt_self (Nat.pos_of_ne_zero hnz) (by decide)
      generalize num a b = M at *
      generalize M / 10 / B64 = a' at *
      generalize M / 10 % B64 = b' at *
      generalize M % 10 = r at *
      have hk4' := hk2.trans hk4
      refine ⟨_, u8w (by omega) (by omega), fun w5 hw5 => ?_⟩
      have e48 : 48 + (r : Int) = ((UInt8.ofNat (48 + r)).toNat : Int) := by rw [u8_toNat_ofNat _ (by omega)]; omega
      have hk5 : Keeps w4 w5 := by rw [hw5]; exact (Keeps.refl w4).alloc _
      have hlit : Own w1.heap.size w5 (some ⟨w4.heap.size, 0, none⟩) 1 1 [UInt8.ofNat (48 + r)] := by
        rw [hw5, e48]; exact Own.new w1.heap.size w4 [_] hk4'.size (by simp)
      have ho5 := (ho.keeps hk4).keeps hk5
      obtain ⟨p', n', c', w6, hrun, ho6, hk6, _⟩ := append_bytes' (a := w1) hlit ho5.reads ho5.len ho5.nilcap (Nat.le_refl _) (Nat.le_trans hk4'.size hk5.size) (hk4'.trans hk5) (by simp; omega) [false, false]
      refine ⟨p', n', c', w6, hrun, M / 10, hdl, hk6, a', b', _, rfl, rfl, ea, eb, esp.symm, ho6, ?_⟩
      rw [hd, hstep, esp, List.append_assoc]
    have hnz' := @num_zero a b
    refine ⟨fun hh => k1 ?_, fun hh => ⟨fun hl => k1 ?_, fun hl => ?_⟩⟩
    · simp only [Bool.not_eq_true', decide_eq_false_iff_not] at hh
      intro e; exact hh (by have := (hnz'.1 e).1; omega)
    · simp only [Bool.not_eq_true', decide_eq_false_iff_not] at hl
      intro e; exact hl (by have := (hnz'.1 e).2; omega)
    · simp only [Bool.not_eq_false', decide_eq_true_eq] at hh hl
      have e0 : num a b = 0 := hnz'.2 ⟨by omega, by omega⟩
      rw [e0, digs_zero, List.nil_append] at hd
      refine ⟨_, w2, conv_string ho.reads ho.len, ?_, hk2⟩
      unfold decF; rw [if_neg hne, hd]
  refine ⟨fun hh => ⟨fun hl => ⟨?_, Keeps.refl _⟩, fun hl => key ?_ w rfl⟩, fun hh => key ?_ w rfl⟩
  · simp only [decide_eq_true_eq] at hh hl
    have e0 : num hi lo = 0 := hz.2 ⟨by omega, by omega⟩
    unfold decF; rw [if_pos e0]
  · simp only [decide_eq_false_iff_not] at hl
    intro e; exact hl (by have := (hz.1 e).2; omega)
  · simp only [decide_eq_false_iff_not] at hh
    intro e; exact hh (by have := (hz.1 e).1; omega)
end Go.Proofs.Tryz
