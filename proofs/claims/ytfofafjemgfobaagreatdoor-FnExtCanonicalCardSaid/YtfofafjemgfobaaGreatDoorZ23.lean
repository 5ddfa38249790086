/- Parts of a proof, joined: VM, W6. -/
import Derived.Test.YtfofafjemgfobaaGreatDoorZ4
import Derived.Test.YtfofafjemgfobaaGreatDoorZ22
set_option linter.unusedVariables false
set_option maxRecDepth 100000
namespace Go.Proofs.Tryz
open Go.Vc

/- F149: base64.NewEncoding -/
def VC149 (encoder : List UInt8) (w : World) (R : Value → World → Prop) : Prop :=
  ((!decide ((encoder.length : Int) = 64)) = true →
  False) ∧ ((!decide ((encoder.length : Int) = 64)) = false →
  ∀ w1, w1 = w.alloc (.cells ((zeros prog 283).getD #[]) 283) → 
    CanStore w1 ⟨w.heap.size, 320, none⟩ (.int .i32 61) ∧ ∀ w2, w2 = w1.setCell ⟨w.heap.size, 320, none⟩ (.int .i32 61) → 
    ∃ x18 : Int, ∃ w3, BuiltinOk prog .copy #[23, 9] 3 [false, false] [.slice (some (⟨w.heap.size, 0, none⟩)) 64 64, .string (mkS encoder)] w2 (.int .i64 x18) w3 ∧ 
    ∃ x23 : Int, ∃ w4, BuiltinOk prog .copy #[23, 9] 3 [false, true] [.slice (some (⟨w.heap.size, 64, none⟩)) 256 256, .string (mkS [255, 255, 255, 255, 255, 255, 255, 255, 255, 255, 255, 255, 255, 255, 255, 255, 255, 255, 255, 255, 255, 255, 255, 255, 255, 255, 255, 255, 255, 255, 255, 255, 255, 255, 255, 255, 255, 255, 255, 255, 255, 255, 255, 255, 255, 255, 255, 255, 255, 255, 255, 255, 255, 255, 255, 255, 255, 255, 255, 255, 255, 255, 255, 255, 255, 255, 255, 255, 255, 255, 255, 255, 255, 255, 255, 255, 255, 255, 255, 255, 255, 255, 255, 255, 255, 255, 255, 255, 255, 255, 255, 255, 255, 255, 255, 255, 255, 255, 255, 255, 255, 255, 255, 255, 255, 255, 255, 255, 255, 255, 255, 255, 255, 255, 255, 255, 255, 255, 255, 255, 255, 255, 255, 255, 255, 255, 255, 255, 255, 255, 255, 255, 255, 255, 255, 255, 255, 255, 255, 255, 255, 255, 255, 255, 255, 255, 255, 255, 255, 255, 255, 255, 255, 255, 255, 255, 255, 255, 255, 255, 255, 255, 255, 255, 255, 255, 255, 255, 255, 255, 255, 255, 255, 255, 255, 255, 255, 255, 255, 255, 255, 255, 255, 255, 255, 255, 255, 255, 255, 255, 255, 255, 255, 255, 255, 255, 255, 255, 255, 255, 255, 255, 255, 255, 255, 255, 255, 255, 255, 255, 255, 255, 255, 255, 255, 255, 255, 255, 255, 255, 255, 255, 255, 255, 255, 255, 255, 255, 255, 255, 255, 255, 255, 255, 255, 255, 255, 255, 255, 255, 255, 255, 255, 255, 255, 255, 255, 255, 255, 255, 255, 255, 255, 255, 255, 255])] w3 (.int .i64 x23) w4 ∧ 
    ∃ Ix : Nat → Int → World → Prop, (∃ m_2, Ix m_2 0 w4) ∧
    ∀ m, ∀ i : Int, ∀ w5, Ix m i w5 →
    (decide (i < (encoder.length : Int)) = true →
      ∃ x33 : UInt8, ((0 : Int) ≤ i ∧ encoder[i.toNat]? = some x33) ∧ 
        (decide ((x33.toNat : Int) = 10) = true →
        False) ∧ (decide ((x33.toNat : Int) = 10) = false →
        ∃ x38 : UInt8, ((0 : Int) ≤ i ∧ encoder[i.toNat]? = some x38) ∧ 
          (decide ((x38.toNat : Int) = 13) = true →
          False) ∧ (decide ((x38.toNat : Int) = 13) = false →
          ∃ x46 : UInt8, ((0 : Int) ≤ i ∧ encoder[i.toNat]? = some x46) ∧ 
            ((0 : Int) ≤ (x46.toNat : Int) ∧ (x46.toNat : Int) < (256 : Int)) ∧ 
            ∃ x50 : Int, w5.drew.cell? ((⟨w.heap.size, 64, none⟩ : Addr).add ((x46.toNat : Int).toNat * 1)) = some (.int .u8 x50) ∧ 
            ((!decide (x50 = 255)) = true →
            False) ∧ ((!decide (x50 = 255)) = false →
            ∃ f : List (Addr × Value), Kept w5.drew f ∧
              ∃ x56 : UInt8, ((0 : Int) ≤ i ∧ encoder[i.toNat]? = some x56) ∧ 
              ∃ x58 : Int, IntKind.u8.wrap i = x58 ∧ 
              ((0 : Int) ≤ (x56.toNat : Int) ∧ (x56.toNat : Int) < (256 : Int)) ∧ 
              CanStore w5.drew.drew ((⟨w.heap.size, 64, none⟩ : Addr).add ((x56.toNat : Int).toNat * 1)) (.int .u8 x58) ∧ ∀ w6, w6 = w5.drew.drew.setCell ((⟨w.heap.size, 64, none⟩ : Addr).add ((x56.toNat : Int).toNat * 1)) (.int .u8 x58) → 
              ∃ x29 : Int, IntKind.i64.wrap (i + 1) = x29 ∧ 
              ∃ m_1, m_1 < m ∧ Ix m_1 x29 w6)))) ∧ (decide (i < (encoder.length : Int)) = false →
      R (.pointer (some (⟨w.heap.size, 0, none⟩))) w5))
def an149 : Ann :=
  .seq (.reg (.text []))
  (.seq (.seq (.reg (.text []))
  (.cond 1 2 (.reg (.text [])) .leaf))
  (.seq (.reg (.text []))
  (.seq (.reg (.text []))
  (.seq (.reg (.text [.p .n, .p .n, .p .n, .p .n, .p .n, .p (.sh [.int .i64])]))
  (.seq (.reg (.text [.p .n, .p .n, .p .n, .p .n, .p (.sh [.int .i64])]))
  (.seq (.seq (.reg (.text []))
  (.block (.loop [(4, .int .i64)] [0, 3] (.seq (.seq (.reg (.text []))
  (.cond 3 4 .leaf .leaf))
  (.seq (.block (.seq (.block (.seq (.reg (.text [.p .n, .p .n, .p .n, .p .n, .p .n, .gs .n 5 6]))
  (.on 6 (.cond 7 8 (.reg (.text [])) (.seq (.reg (.loads (.take 0 (.p .n) (.take 1 (.p .n) (.take 2 (.p .n) (.take 3 (.p .n) (.take 4 (.p .n) (.take 5 (.p .n) (.take 6 (.p .n) (.take 7 (.p (.sh [.int .u8])) (.take 8 (.p .n) (.take 9 (.p .n) .done))))))))))))
  (.cond 9 10 (.reg (.text [])) .leaf))) (.yes (.reg (.text []))))))
  (.reg (.held [9] (.take 0 (.p .n) (.take 1 (.p .n) (.take 2 (.p .n) (.take 3 (.p .n) (.take 4 (.p .n) (.take 5 (.p .n) (.take 6 (.p .n) (.take 7 (.p .n) (.take 8 (.p .n) (.run 9 (.p .n) .done .done))))))))))))))
  (.reg (.text [])))))))
  (.seq (.reg (.text []))
  .leaf)))))))
theorem vcE149 (encoder : List UInt8) (w : World) (R : Value → World → Prop) : vcFn prog f149 an149 [.string (mkS encoder)] w R = VC149 encoder w R := by kernel_rfl
theorem c149 (encoder : List UInt8) (w : World) (R : Value → World → Prop) (hvc : VC149 encoder w R) : Calls prog 149 ⟨[.string (mkS encoder)]⟩ w fun e w' => ∃ v, e = .returned v ∧ R v w' :=
  vc_calls mixed (fn := f149) (ann := an149) (by kernel_rfl) ((vcE149 encoder w R).symm ▸ hvc)

/- F150: base64.Encoding).EncodeToString -/
def VC150 (enc : Addr) (src : Option Addr) (src_n src_c : Nat) (w : World) (R : Value → World → Prop) : Prop :=
  Calls prog 209 ⟨[.pointer (some enc), .int .i64 (src_n : Int)]⟩ w fun e w1 => ∃ x9 : Int, e = .returned (.int .i64 x9) ∧ 
  ∃ (x10 : Option Addr) (x10_n x10_c : Nat), ∃ w2, (Instr.makeSlice 23 (.int .i64 x9) (.int .i64 x9)).run prog w1 = .ok (.slice x10 x10_n x10_c) w2 ∧ 
  Calls prog 210 ⟨[.pointer (some enc), .slice x10 x10_n x10_c, .slice src src_n src_c]⟩ w2 fun e w3 => e = .returned (.tuple ⟨[]⟩) ∧ 
  ∃ x16 : List UInt8, ∃ w4, (convert 23 9 (.slice x10 x10_n x10_c)).run prog w3 = .ok (.string (mkS x16)) w4 ∧ 
  R (.string (mkS x16)) w4
def an150 : Ann :=
  .seq (.reg (.text []))
  (.seq (.reg (.text [.p .n, .p .n, .p .n, .p (.sh [.int .i64]), .p (.sh [.slice])]))
  (.seq (.reg (.text [.p .n, .p .n, .p .n, .p (.sh [])]))
  (.seq (.reg (.text [.p .n, .p (.sh [.str])]))
  .leaf)))
theorem vcE150 (enc : Addr) (src : Option Addr) (src_n src_c : Nat) (w : World) (R : Value → World → Prop) : vcFn prog f150 an150 [.pointer (some enc), .slice src src_n src_c] w R = VC150 enc src src_n src_c w R := by kernel_rfl
theorem c150 (enc : Addr) (src : Option Addr) (src_n src_c : Nat) (w : World) (R : Value → World → Prop) (hvc : VC150 enc src src_n src_c w R) : Calls prog 150 ⟨[.pointer (some enc), .slice src src_n src_c]⟩ w fun e w' => ∃ v, e = .returned v ∧ R v w' :=
  vc_calls mixed (fn := f150) (ann := an150) (by kernel_rfl) ((vcE150 enc src src_n src_c w R).symm ▸ hvc)

/- F209: base64.Encoding).EncodedLen -/
def VC209 (enc : Addr) (nx : Int) (w : World) (R : Value → World → Prop) : Prop :=
  ∃ x8 : Int, w.cell? (enc.add 320) = some (.int .i32 x8) ∧ 
  (decide (x8 = (-1)) = true →
  (3 : Int) ≠ 0 ∧ ∃ x11 : Int, IntKind.i64.wrap (Int.tdiv nx 3) = x11 ∧ 
    ∃ x12 : Int, IntKind.i64.wrap (x11 * 4) = x12 ∧ 
    (3 : Int) ≠ 0 ∧ ∃ x14 : Int, Int.tmod nx 3 = x14 ∧ 
    ∃ x15 : Int, IntKind.i64.wrap (x14 * 8) = x15 ∧ 
    ∃ x16 : Int, IntKind.i64.wrap (x15 + 5) = x16 ∧ 
    (6 : Int) ≠ 0 ∧ ∃ x17 : Int, IntKind.i64.wrap (Int.tdiv x16 6) = x17 ∧ 
    ∃ x18 : Int, IntKind.i64.wrap (x12 + x17) = x18 ∧ 
    R (.int .i64 x18) w) ∧ (decide (x8 = (-1)) = false →
  ∃ x20 : Int, IntKind.i64.wrap (nx + 2) = x20 ∧ 
    (3 : Int) ≠ 0 ∧ ∃ x21 : Int, IntKind.i64.wrap (Int.tdiv x20 3) = x21 ∧ 
    ∃ x22 : Int, IntKind.i64.wrap (x21 * 4) = x22 ∧ 
    R (.int .i64 x22) w)
def an209 : Ann :=
  .seq (.reg (.text []))
  (.seq (.seq (.reg (.text [.p .n, .p .n, .p .n, .p (.sh [.int .i32])]))
  (.cond 1 2 (.seq (.reg (.text []))
  .leaf) .leaf))
  (.seq (.reg (.text []))
  .leaf))
theorem vcE209 (enc : Addr) (nx : Int) (w : World) (R : Value → World → Prop) : vcFn prog f209 an209 [.pointer (some enc), .int .i64 nx] w R = VC209 enc nx w R := by kernel_rfl
theorem c209 (enc : Addr) (nx : Int) (w : World) (R : Value → World → Prop) (hvc : VC209 enc nx w R) : Calls prog 209 ⟨[.pointer (some enc), .int .i64 nx]⟩ w fun e w' => ∃ v, e = .returned v ∧ R v w' :=
  vc_calls mixed (fn := f209) (ann := an209) (by kernel_rfl) ((vcE209 enc nx w R).symm ▸ hvc)

/- F210: base64.Encoding).Encode -/
def VC210 (enc : Addr) (dst : Option Addr) (dst_n dst_c : Nat) (src : Option Addr) (src_n src_c : Nat) (w : World) (R : Value → World → Prop) : Prop :=
  (decide ((src_n : Int) = 0) = true →
  R (.tuple ⟨[]⟩) w) ∧ (decide ((src_n : Int) = 0) = false →
  ∃ x15 : List Value, LoadsRow prog 280 w enc x15 ∧ 
    ∃ Ix : Nat → Option Addr → Nat → Nat → Option Addr → Nat → Nat → World → Prop, (∃ m_2, Ix m_2 dst dst_n dst_c src src_n src_c w) ∧
    ∀ m, ∀ (dst_1 : Option Addr) (dst_1_n dst_1_c : Nat), ∀ (src_1 : Option Addr) (src_1_n src_1_c : Nat), ∀ w1, Ix m dst_1 dst_1_n dst_1_c src_1 src_1_n src_1_c w1 →
    (decide (3 ≤ (src_1_n : Int)) = true →
      ((0 : Int) ≤ 0 ∧ 0 < (src_1_n : Int)) ∧ ∃ src_1a : Addr, src_1 = some src_1a ∧ 
        ∃ x21 : Int, w1.drew.cell? src_1a = some (.int .u8 x21) ∧ 
        ∃ x22 : Int, IntKind.u64.wrap x21 = x22 ∧ 
        (0 : Int) ≤ 16 ∧ ∃ x23 : Int, IntKind.u64.wrap (x22 * 2 ^ 16) = x23 ∧ 
        ((0 : Int) ≤ 1 ∧ 1 < (src_1_n : Int)) ∧ ∃ src_1a_1 : Addr, src_1 = some src_1a_1 ∧ 
        ∃ x26 : Int, w1.drew.cell? (src_1a_1.add 1) = some (.int .u8 x26) ∧ 
        ∃ x27 : Int, IntKind.u64.wrap x26 = x27 ∧ 
        (0 : Int) ≤ 8 ∧ ∃ x28 : Int, IntKind.u64.wrap (x27 * 2 ^ 8) = x28 ∧ 
        ∃ x29 : Int, bits .or .u64 x23 x28 = x29 ∧ 
        ((0 : Int) ≤ 2 ∧ 2 < (src_1_n : Int)) ∧ ∃ src_1a_2 : Addr, src_1 = some src_1a_2 ∧ 
        ∃ x32 : Int, w1.drew.cell? (src_1a_2.add 2) = some (.int .u8 x32) ∧ 
        ∃ x33 : Int, IntKind.u64.wrap x32 = x33 ∧ 
        ∃ x34 : Int, bits .or .u64 x29 x33 = x34 ∧ 
        ((0 : Int) ≤ 3 ∧ 3 < (dst_1_n : Int)) ∧ ∃ dst_1a : Addr, dst_1 = some dst_1a ∧ 
        ∃ x37 : Int, w1.drew.cell? (dst_1a.add 3) = some (.int .u8 x37) ∧ 
        (0 : Int) ≤ 18 ∧ ∃ x41 : Int, Int.fdiv x34 (2 ^ 18) = x41 ∧ 
        ∃ x42 : Int, bits .and .u64 x41 63 = x42 ∧ 
        ((0 : Int) ≤ x42 ∧ x42 < (64 : Int)) ∧ 
        ∃ x46 : Int, w1.drew.cell? (enc.add (x42.toNat * 1)) = some (.int .u8 x46) ∧ 
        ((0 : Int) ≤ 0 ∧ 0 < (dst_1_n : Int)) ∧ ∃ dst_1a_1 : Addr, dst_1 = some dst_1a_1 ∧ 
        CanStore w1.drew dst_1a_1 (.int .u8 x46) ∧ ∀ w2, w2 = w1.drew.setCell dst_1a_1 (.int .u8 x46) → 
        (0 : Int) ≤ 12 ∧ ∃ x51 : Int, Int.fdiv x34 (2 ^ 12) = x51 ∧ 
        ∃ x52 : Int, bits .and .u64 x51 63 = x52 ∧ 
        ((0 : Int) ≤ x52 ∧ x52 < (64 : Int)) ∧ 
        ∃ x56 : Int, w2.cell? (enc.add (x52.toNat * 1)) = some (.int .u8 x56) ∧ 
        ((0 : Int) ≤ 1 ∧ 1 < (dst_1_n : Int)) ∧ ∃ dst_1a_2 : Addr, dst_1 = some dst_1a_2 ∧ 
        CanStore w2 (dst_1a_2.add 1) (.int .u8 x56) ∧ ∀ w3, w3 = w2.setCell (dst_1a_2.add 1) (.int .u8 x56) → 
        (0 : Int) ≤ 6 ∧ ∃ x61 : Int, Int.fdiv x34 (2 ^ 6) = x61 ∧ 
        ∃ x62 : Int, bits .and .u64 x61 63 = x62 ∧ 
        ((0 : Int) ≤ x62 ∧ x62 < (64 : Int)) ∧ 
        ∃ x66 : Int, w3.cell? (enc.add (x62.toNat * 1)) = some (.int .u8 x66) ∧ 
        ((0 : Int) ≤ 2 ∧ 2 < (dst_1_n : Int)) ∧ ∃ dst_1a_3 : Addr, dst_1 = some dst_1a_3 ∧ 
        CanStore w3 (dst_1a_3.add 2) (.int .u8 x66) ∧ ∀ w4, w4 = w3.setCell (dst_1a_3.add 2) (.int .u8 x66) → 
        ∃ x71 : Int, bits .and .u64 x34 63 = x71 ∧ 
        ((0 : Int) ≤ x71 ∧ x71 < (64 : Int)) ∧ 
        ∃ x75 : Int, w4.cell? (enc.add (x71.toNat * 1)) = some (.int .u8 x75) ∧ 
        ((0 : Int) ≤ 3 ∧ 3 < (dst_1_n : Int)) ∧ ∃ dst_1a_4 : Addr, dst_1 = some dst_1a_4 ∧ 
        CanStore w4 (dst_1a_4.add 3) (.int .u8 x75) ∧ ∀ w5, w5 = w4.setCell (dst_1a_4.add 3) (.int .u8 x75) → 
        ((0 : Int) ≤ 3 ∧ 3 ≤ (src_1_n : Int) ∧ (src_1_n : Int) ≤ (src_1_c : Int)) ∧ 
        ((0 : Int) ≤ 4 ∧ 4 ≤ (dst_1_n : Int) ∧ (dst_1_n : Int) ≤ (dst_1_c : Int)) ∧ 
        ∃ m_1, m_1 < m ∧ Ix m_1 (slAddr dst_1 dst_1_c 4 1) (dst_1_n - 4) (dst_1_c - 4) (slAddr src_1 src_1_c 3 1) (src_1_n - 3) (src_1_c - 3) w5) ∧ (decide (3 ≤ (src_1_n : Int)) = false →
      (decide ((src_1_n : Int) = 0) = true →
        R (.tuple ⟨[]⟩) w1) ∧ (decide ((src_1_n : Int) = 0) = false →
        (decide ((src_1_n : Int) = 1) = true →
          ((0 : Int) ≤ 0 ∧ 0 < (src_1_n : Int)) ∧ ∃ src_1a_3 : Addr, src_1 = some src_1a_3 ∧ 
            ∃ x89 : Int, w1.cell? src_1a_3 = some (.int .u8 x89) ∧ 
            ∃ x90 : Int, IntKind.u64.wrap x89 = x90 ∧ 
            (0 : Int) ≤ 16 ∧ ∃ x91 : Int, IntKind.u64.wrap (x90 * 2 ^ 16) = x91 ∧ 
            (0 : Int) ≤ 18 ∧ ∃ x95 : Int, Int.fdiv x91 (2 ^ 18) = x95 ∧ 
            ∃ x96 : Int, bits .and .u64 x95 63 = x96 ∧ 
            ((0 : Int) ≤ x96 ∧ x96 < (64 : Int)) ∧ 
            ∃ x100 : Int, w1.cell? (enc.add (x96.toNat * 1)) = some (.int .u8 x100) ∧ 
            ((0 : Int) ≤ 0 ∧ 0 < (dst_1_n : Int)) ∧ ∃ dst_1a_5 : Addr, dst_1 = some dst_1a_5 ∧ 
            CanStore w1 dst_1a_5 (.int .u8 x100) ∧ ∀ w6, w6 = w1.setCell dst_1a_5 (.int .u8 x100) → 
            (0 : Int) ≤ 12 ∧ ∃ x105 : Int, Int.fdiv x91 (2 ^ 12) = x105 ∧ 
            ∃ x106 : Int, bits .and .u64 x105 63 = x106 ∧ 
            ((0 : Int) ≤ x106 ∧ x106 < (64 : Int)) ∧ 
            ∃ x110 : Int, w6.cell? (enc.add (x106.toNat * 1)) = some (.int .u8 x110) ∧ 
            ((0 : Int) ≤ 1 ∧ 1 < (dst_1_n : Int)) ∧ ∃ dst_1a_6 : Addr, dst_1 = some dst_1a_6 ∧ 
            CanStore w6 (dst_1a_6.add 1) (.int .u8 x110) ∧ ∀ w7, w7 = w6.setCell (dst_1a_6.add 1) (.int .u8 x110) → 
            ∃ x115 : Int, w7.cell? (enc.add 320) = some (.int .i32 x115) ∧ 
            ((!decide (x115 = (-1))) = true →
            ∃ x121 : Int, w7.cell? (enc.add 320) = some (.int .i32 x121) ∧ 
              ∃ x122 : Int, IntKind.u8.wrap x121 = x122 ∧ 
              ((0 : Int) ≤ 2 ∧ 2 < (dst_1_n : Int)) ∧ ∃ dst_1a_7 : Addr, dst_1 = some dst_1a_7 ∧ 
              CanStore w7 (dst_1a_7.add 2) (.int .u8 x122) ∧ ∀ w8, w8 = w7.setCell (dst_1a_7.add 2) (.int .u8 x122) → 
              ∃ x128 : Int, w8.cell? (enc.add 320) = some (.int .i32 x128) ∧ 
              ∃ x129 : Int, IntKind.u8.wrap x128 = x129 ∧ 
              ((0 : Int) ≤ 3 ∧ 3 < (dst_1_n : Int)) ∧ ∃ dst_1a_8 : Addr, dst_1 = some dst_1a_8 ∧ 
              CanStore w8 (dst_1a_8.add 3) (.int .u8 x129) ∧ ∀ w9, w9 = w8.setCell (dst_1a_8.add 3) (.int .u8 x129) → 
              R (.tuple ⟨[]⟩) w9) ∧ ((!decide (x115 = (-1))) = false →
            R (.tuple ⟨[]⟩) w7)) ∧ (decide ((src_1_n : Int) = 1) = false →
          (decide ((src_1_n : Int) = 2) = true →
            ((0 : Int) ≤ 0 ∧ 0 < (src_1_n : Int)) ∧ ∃ src_1a_4 : Addr, src_1 = some src_1a_4 ∧ 
              ∃ x135 : Int, w1.drew.cell? src_1a_4 = some (.int .u8 x135) ∧ 
              ∃ x136 : Int, IntKind.u64.wrap x135 = x136 ∧ 
              (0 : Int) ≤ 16 ∧ ∃ x137 : Int, IntKind.u64.wrap (x136 * 2 ^ 16) = x137 ∧ 
              ((0 : Int) ≤ 1 ∧ 1 < (src_1_n : Int)) ∧ ∃ src_1a_5 : Addr, src_1 = some src_1a_5 ∧ 
              ∃ x140 : Int, w1.drew.cell? (src_1a_5.add 1) = some (.int .u8 x140) ∧ 
              ∃ x141 : Int, IntKind.u64.wrap x140 = x141 ∧ 
              (0 : Int) ≤ 8 ∧ ∃ x142 : Int, IntKind.u64.wrap (x141 * 2 ^ 8) = x142 ∧ 
              ∃ x143 : Int, bits .or .u64 x137 x142 = x143 ∧ 
              (0 : Int) ≤ 18 ∧ ∃ x147 : Int, Int.fdiv x143 (2 ^ 18) = x147 ∧ 
              ∃ x148 : Int, bits .and .u64 x147 63 = x148 ∧ 
              ((0 : Int) ≤ x148 ∧ x148 < (64 : Int)) ∧ 
              ∃ x152 : Int, w1.drew.cell? (enc.add (x148.toNat * 1)) = some (.int .u8 x152) ∧ 
              ((0 : Int) ≤ 0 ∧ 0 < (dst_1_n : Int)) ∧ ∃ dst_1a_9 : Addr, dst_1 = some dst_1a_9 ∧ 
              CanStore w1.drew dst_1a_9 (.int .u8 x152) ∧ ∀ w10, w10 = w1.drew.setCell dst_1a_9 (.int .u8 x152) → 
              (0 : Int) ≤ 12 ∧ ∃ x157 : Int, Int.fdiv x143 (2 ^ 12) = x157 ∧ 
              ∃ x158 : Int, bits .and .u64 x157 63 = x158 ∧ 
              ((0 : Int) ≤ x158 ∧ x158 < (64 : Int)) ∧ 
              ∃ x162 : Int, w10.cell? (enc.add (x158.toNat * 1)) = some (.int .u8 x162) ∧ 
              ((0 : Int) ≤ 1 ∧ 1 < (dst_1_n : Int)) ∧ ∃ dst_1a_10 : Addr, dst_1 = some dst_1a_10 ∧ 
              CanStore w10 (dst_1a_10.add 1) (.int .u8 x162) ∧ ∀ w11, w11 = w10.setCell (dst_1a_10.add 1) (.int .u8 x162) → 
              (0 : Int) ≤ 6 ∧ ∃ x167 : Int, Int.fdiv x143 (2 ^ 6) = x167 ∧ 
              ∃ x168 : Int, bits .and .u64 x167 63 = x168 ∧ 
              ((0 : Int) ≤ x168 ∧ x168 < (64 : Int)) ∧ 
              ∃ x172 : Int, w11.cell? (enc.add (x168.toNat * 1)) = some (.int .u8 x172) ∧ 
              ((0 : Int) ≤ 2 ∧ 2 < (dst_1_n : Int)) ∧ ∃ dst_1a_11 : Addr, dst_1 = some dst_1a_11 ∧ 
              CanStore w11 (dst_1a_11.add 2) (.int .u8 x172) ∧ ∀ w12, w12 = w11.setCell (dst_1a_11.add 2) (.int .u8 x172) → 
              ∃ x177 : Int, w12.cell? (enc.add 320) = some (.int .i32 x177) ∧ 
              ((!decide (x177 = (-1))) = true →
              ∃ x183 : Int, w12.cell? (enc.add 320) = some (.int .i32 x183) ∧ 
                ∃ x184 : Int, IntKind.u8.wrap x183 = x184 ∧ 
                ((0 : Int) ≤ 3 ∧ 3 < (dst_1_n : Int)) ∧ ∃ dst_1a_12 : Addr, dst_1 = some dst_1a_12 ∧ 
                CanStore w12 (dst_1a_12.add 3) (.int .u8 x184) ∧ ∀ w13, w13 = w12.setCell (dst_1a_12.add 3) (.int .u8 x184) → 
                R (.tuple ⟨[]⟩) w13) ∧ ((!decide (x177 = (-1))) = false →
              R (.tuple ⟨[]⟩) w12)) ∧ (decide ((src_1_n : Int) = 2) = false →
            R (.tuple ⟨[]⟩) w1)))))
def an210 : Ann :=
  .seq (.seq (.reg (.text []))
  (.cond 1 2 .leaf .leaf))
  (.seq (.reg (.text []))
  (.seq (.block (.loop [(1, .slice), (2, .slice)] [0] (.seq (.seq (.reg (.text []))
  (.cond 3 4 .leaf .leaf))
  (.block (.seq (.reg (.loads (.take 0 (.p .n) (.take 1 (.p (.sh [])) (.take 2 (.p (.sh [.int .u8])) (.take 3 (.p .n) (.take 4 (.p .n) (.take 5 (.p .n) (.take 6 (.p (.sh [])) (.take 7 (.p (.sh [.int .u8])) (.take 8 (.p .n) (.take 9 (.p .n) (.take 10 (.p .n) (.take 11 (.p .n) (.take 12 (.p (.sh [])) (.take 13 (.p (.sh [.int .u8])) (.take 14 (.p .n) (.take 15 (.p .n) (.take 16 (.p .n) .done)))))))))))))))))))
  (.seq (.reg (.text [.p .n, .p (.sh []), .p (.sh [.int .u8])]))
  (.seq (.reg (.text [.p .n, .p .n, .p .n, .p .n, .p .n, .p .n, .p .n, .p .n, .p (.sh [.int .u8]), .p (.sh [])]))
  (.seq (.reg (.text [.p .n, .p .n, .p .n, .p .n, .p .n, .p .n, .p .n, .p .n, .p (.sh [.int .u8]), .p (.sh [])]))
  (.seq (.reg (.text [.p .n, .p .n, .p .n, .p .n, .p .n, .p .n, .p .n, .p .n, .p (.sh [.int .u8]), .p (.sh [])]))
  (.seq (.reg (.text [.p .n, .p .n, .p .n, .p .n, .p .n, .p .n, .p .n, .p (.sh [.int .u8]), .p (.sh [])]))
  (.seq (.reg (.text []))
  (.reg (.text [])))))))))))))
  (.seq (.reg (.text []))
  (.block (.seq (.reg (.text []))
  (.cond 5 6 .leaf (.seq (.reg (.text []))
  (.cond 7 8 (.seq (.reg (.text [.p .n, .p (.sh []), .p (.sh [.int .u8])]))
  (.seq (.reg (.text [.p .n, .p .n, .p .n, .p .n, .p .n, .p .n, .p .n, .p .n, .p (.sh [.int .u8]), .p (.sh [])]))
  (.seq (.reg (.text [.p .n, .p .n, .p .n, .p .n, .p .n, .p .n, .p .n, .p .n, .p (.sh [.int .u8]), .p (.sh [])]))
  (.seq (.reg (.text [.p .n, .p .n, .p .n, .p (.sh [.int .i32])]))
  (.cond 9 10 (.seq (.reg (.text [.p .n, .p .n, .p .n, .p .n, .p (.sh [.int .i32]), .p .n, .p (.sh [])]))
  (.reg (.text [.p .n, .p .n, .p .n, .p .n, .p (.sh [.int .i32]), .p .n, .p (.sh [])]))) .leaf))))) (.seq (.reg (.text []))
  (.cond 11 12 (.seq (.reg (.loads (.take 0 (.p .n) (.take 1 (.p (.sh [])) (.take 2 (.p (.sh [.int .u8])) (.take 3 (.p .n) (.take 4 (.p .n) (.take 5 (.p .n) (.take 6 (.p (.sh [])) (.take 7 (.p (.sh [.int .u8])) (.take 8 (.p .n) (.take 9 (.p .n) (.take 10 (.p .n) (.take 11 (.p .n) .done))))))))))))))
  (.seq (.reg (.text [.p .n, .p .n, .p .n, .p .n, .p .n, .p .n, .p .n, .p .n, .p (.sh [.int .u8]), .p (.sh [])]))
  (.seq (.reg (.text [.p .n, .p .n, .p .n, .p .n, .p .n, .p .n, .p .n, .p .n, .p (.sh [.int .u8]), .p (.sh [])]))
  (.seq (.reg (.text [.p .n, .p .n, .p .n, .p .n, .p .n, .p .n, .p .n, .p .n, .p (.sh [.int .u8]), .p (.sh [])]))
  (.seq (.reg (.text [.p .n, .p .n, .p .n, .p (.sh [.int .i32])]))
  (.cond 13 14 (.reg (.text [.p .n, .p .n, .p .n, .p .n, .p (.sh [.int .i32]), .p .n, .p (.sh [])])) .leaf)))))) .leaf))))))))))
theorem vcE210 (enc : Addr) (dst : Option Addr) (dst_n dst_c : Nat) (src : Option Addr) (src_n src_c : Nat) (w : World) (R : Value → World → Prop) : vcFn prog f210 an210 [.pointer (some enc), .slice dst dst_n dst_c, .slice src src_n src_c] w R = VC210 enc dst dst_n dst_c src src_n src_c w R := by kernel_rfl
theorem c210 (enc : Addr) (dst : Option Addr) (dst_n dst_c : Nat) (src : Option Addr) (src_n src_c : Nat) (w : World) (R : Value → World → Prop) (hvc : VC210 enc dst dst_n dst_c src src_n src_c w R) : Calls prog 210 ⟨[.pointer (some enc), .slice dst dst_n dst_c, .slice src src_n src_c]⟩ w fun e w' => ∃ v, e = .returned v ∧ R v w' :=
  vc_calls mixed (fn := f210) (ann := an210) (by kernel_rfl) ((vcE210 enc dst dst_n dst_c src src_n src_c w R).symm ▸ hvc)

/- F274: bson.zzStandard -/
def VC274  (w : World) (R : Value → World → Prop) : Prop :=
  Calls prog 149 ⟨[.string (mkS [65, 66, 67, 68, 69, 70, 71, 72, 73, 74, 75, 76, 77, 78, 79, 80, 81, 82, 83, 84, 85, 86, 87, 88, 89, 90, 97, 98, 99, 100, 101, 102, 103, 104, 105, 106, 107, 108, 109, 110, 111, 112, 113, 114, 115, 116, 117, 118, 119, 120, 121, 122, 48, 49, 50, 51, 52, 53, 54, 55, 56, 57, 43, 47])]⟩ w fun e w1 => ∃ x1 : Option Addr, e = .returned (.pointer x1) ∧ 
  R (.pointer x1) w1
def an274 : Ann :=
  .seq (.reg (.text []))
  (.seq (.reg (.text [.p (.sh [.ptr])]))
  .leaf)
theorem vcE274  (w : World) (R : Value → World → Prop) : vcFn prog f274 an274 [] w R = VC274  w R := by kernel_rfl
theorem c274  (w : World) (R : Value → World → Prop) (hvc : VC274  w R) : Calls prog 274 ⟨[]⟩ w fun e w' => ∃ v, e = .returned v ∧ R v w' :=
  vc_calls mixed (fn := f274) (ann := an274) (by kernel_rfl) ((vcE274  w R).symm ▸ hvc)

/- F273: bson.zzContainsRune -/
def VC273 (s : List UInt8) (r : Int) (w : World) (R : Value → World → Prop) : Prop :=
  Calls prog 285 ⟨[.string (mkS s), .int .i32 r]⟩ w fun e w1 => ∃ x7 : Int, e = .returned (.int .i64 x7) ∧ 
  R (.bool (decide (0 ≤ x7))) w1
def an273 : Ann :=
  .seq (.reg (.text []))
  (.seq (.reg (.text [.p .n, .p .n, .p (.sh [.int .i64])]))
  .leaf)
theorem vcE273 (s : List UInt8) (r : Int) (w : World) (R : Value → World → Prop) : vcFn prog f273 an273 [.string (mkS s), .int .i32 r] w R = VC273 s r w R := by kernel_rfl
theorem c273 (s : List UInt8) (r : Int) (w : World) (R : Value → World → Prop) (hvc : VC273 s r w R) : Calls prog 273 ⟨[.string (mkS s), .int .i32 r]⟩ w fun e w' => ∃ v, e = .returned v ∧ R v w' :=
  vc_calls mixed (fn := f273) (ann := an273) (by kernel_rfl) ((vcE273 s r w R).symm ▸ hvc)

/- F285: bson.zzIndexRune -/
def VC285 (s : List UInt8) (r : Int) (w : World) (R : Value → World → Prop) : Prop :=
  ∀ Kx : World → Prop, (∀ w1,
  (∀ w2, w2 = w1.alloc (.stringIter (mkS s) 0) → 
    ∃ Ix : Nat → World → Prop, (∃ m_2, Ix m_2 w2) ∧
    ∀ m, ∀ w3, Ix m w3 →
    ∃ (str : List UInt8) (pos : Nat), w3.heap[w1.heap.size]? = some (.stringIter (mkS str) pos) ∧
      (pos < str.length → ∀ w4 : World, w4 = { w3 with heap := w3.heap.setIfInBounds w1.heap.size (.stringIter (mkS str) (pos + (Utf8.decode (mkS str) pos).2)) } →
      (decide (((Utf8.decode (mkS str) pos).1 : Int) = r) = true →
        R (.int .i64 (pos : Int)) w4) ∧ (decide (((Utf8.decode (mkS str) pos).1 : Int) = r) = false →
        ∃ m_1, m_1 < m ∧ Ix m_1 w4)) ∧ (¬ pos < str.length →
      R (.int .i64 (-1)) w3)) → Kx w1) →
  ((!decide (r = 65533)) = true →
  (decide (r < 0) = true →
    R (.int .i64 (-1)) w) ∧ (decide (r < 0) = false →
    (decide (1114111 < r) = true →
      R (.int .i64 (-1)) w) ∧ (decide (1114111 < r) = false →
      (decide (55296 ≤ r) = true →
        (decide (r ≤ 57343) = true →
          R (.int .i64 (-1)) w) ∧ (decide (r ≤ 57343) = false →
          Kx w)) ∧ (decide (55296 ≤ r) = false →
        Kx w)))) ∧ ((!decide (r = 65533)) = false →
  Kx w)
def an285 : Ann :=
  .seq (.reg (.text []))
  (.cut [] [0, 1] (.seq (.reg (.text [.p .n, .p .n, .p .n, .gs .n 5 6, .p .n, .p .n, .on 6 (.p .n) (.gs .n 7 8), .p .n, .p .n, .p .n, .on 8 (.gs .n 9 10) (.p .n), .p .n, .p .n, .on 10 (.gs .n 11 12) (.p .n)]))
  (.on 6 (.no .leaf) (.on 12 (.no .leaf) (.on 11 (.cond 13 14 (.seq (.reg (.text []))
  .leaf) .leaf) (.yes (.seq (.reg (.text []))
  .leaf))))))
  (.seq (.seq (.reg (.text []))
  (.block (.loop [] [1, 26] (.seq (.reg (.text [.nx 1 2]))
  (.seq (.on 2 (.no .leaf) (.yes .leaf))
  (.block (.seq (.reg (.text []))
  (.seq (.reg (.text []))
  (.cond 3 4 (.seq (.reg (.text []))
  .leaf) .leaf)))))))))
  (.seq (.reg (.text []))
  .leaf)))
theorem vcE285 (s : List UInt8) (r : Int) (w : World) (R : Value → World → Prop) : vcFn prog f285 an285 [.string (mkS s), .int .i32 r] w R = VC285 s r w R := by kernel_rfl
theorem c285 (s : List UInt8) (r : Int) (w : World) (R : Value → World → Prop) (hvc : VC285 s r w R) : Calls prog 285 ⟨[.string (mkS s), .int .i32 r]⟩ w fun e w' => ∃ v, e = .returned v ∧ R v w' :=
  vc_calls mixed (fn := f285) (ann := an285) (by kernel_rfl) ((vcE285 s r w R).symm ▸ hvc)

/- F107: decimal128.String -/
def VC107 (h : Int) (lx : Int) (w : World) (R : Value → World → Prop) : Prop :=
  ∀ Kx : Int → World → Prop, (∀ posSign : Int, ∀ w1,
  ((0 : Int) ≤ 58 ∧ ∃ x22 : Int, Int.fdiv h (2 ^ 58) = x22 ∧ 
    ∃ x23 : Int, bits .and .u64 x22 31 = x23 ∧ 
    (decide (x23 = 31) = true →
    R (.string (mkS [78, 97, 78])) w1) ∧ (decide (x23 = 31) = false →
    (decide (x23 = 30) = true →
      (0 ≤ posSign ∧ posSign ≤ ([45, 73, 110, 102, 105, 110, 105, 116, 121].length : Int)) ∧ 
        R (.string (mkS ([45, 73, 110, 102, 105, 110, 105, 116, 121].drop posSign.toNat))) w1) ∧ (decide (x23 = 30) = false →
      ∀ Kx_1 : Int → Int → Int → World → Prop, (∀ exp : Int, ∀ high : Int, ∀ low : Int, ∀ w2,
        (∃ x46 : Int, IntKind.i64.wrap (exp + (-6176)) = x46 ∧ 
          ∀ Kx_2 : World → Prop, (∀ w3,
          (∀ w4, w4 = w3.alloc (.cells ((zeros prog 234).getD #[]) 234) → 
            ∃ x60 : Int, IntKind.i64.wrap (48 + x46) = x60 ∧ 
            ∀ Kx_3 : Int → Int → World → Prop, (∀ exp_1 : Int, ∀ last : Int, ∀ w5,
            (∃ x174 : Int, IntKind.i64.wrap (last - 1) = x174 ∧ 
              ((0 : Int) ≤ x174 ∧ x174 < (48 : Int)) ∧ 
              CanStore w5 ((⟨w3.heap.size, 0, none⟩ : Addr).add (x174.toNat * 1)) (.int .u8 45) ∧ ∀ w6, w6 = w5.setCell ((⟨w3.heap.size, 0, none⟩ : Addr).add (x174.toNat * 1)) (.int .u8 45) → 
              ∃ x177 : Int, IntKind.i64.wrap (last - 1) = x177 ∧ 
              (decide (0 < exp_1) = true →
              ∃ f : List (Addr × Value), Kept w6 f ∧
                ∃ x182 : Int, IntKind.i64.wrap (x177 + posSign) = x182 ∧ 
                ((0 : Int) ≤ x182 ∧ x182 ≤ (48 : Int) ∧ (48 : Int) ≤ (48 : Int)) ∧ 
                (∃ x184 : List UInt8, ∃ w7, (convert 23 9 (.slice (slAddr (some (⟨w3.heap.size, 0, none⟩)) 48 x182.toNat 1) (48 - x182.toNat) (48 - x182.toNat))).run prog w6.drew = .ok (.string (mkS x184)) w7 ∧ 
                x184.length + [69, 43].length ≤ 9223372036854775807 ∧ 
                Calls prog 167 ⟨[.int .i64 exp_1]⟩ w7 fun e w8 => ∃ x187 : List UInt8, e = .returned (.string (mkS x187)) ∧ 
                (x184 ++ [69, 43]).length + x187.length ≤ 9223372036854775807 ∧ 
                R (.string (mkS ((x184 ++ [69, 43]) ++ x187))) w8) ∧ (Calls prog 167 ⟨[.int .i64 exp_1]⟩ w6.drew fun e w9 => ∃ x187_1 : List UInt8, e = .returned (.string (mkS x187_1)) ∧ 
                ∃ x184_1 : List UInt8, ∃ w10, (convert 23 9 (.slice (slAddr (some (⟨w3.heap.size, 0, none⟩)) 48 x182.toNat 1) (48 - x182.toNat) (48 - x182.toNat))).run prog w9 = .ok (.string (mkS x184_1)) w10 ∧ 
                x184_1.length + [69, 43].length ≤ 9223372036854775807 ∧ 
                (x184_1 ++ [69, 43]).length + x187_1.length ≤ 9223372036854775807 ∧ 
                R (.string (mkS ((x184_1 ++ [69, 43]) ++ x187_1))) w10)) ∧ (decide (0 < exp_1) = false →
              (decide (exp_1 < 0) = true →
                ∃ f_1 : List (Addr × Value), Kept w6 f_1 ∧
                  ∃ x193 : Int, IntKind.i64.wrap (x177 + posSign) = x193 ∧ 
                  ((0 : Int) ≤ x193 ∧ x193 ≤ (48 : Int) ∧ (48 : Int) ≤ (48 : Int)) ∧ 
                  (∃ x195 : List UInt8, ∃ w11, (convert 23 9 (.slice (slAddr (some (⟨w3.heap.size, 0, none⟩)) 48 x193.toNat 1) (48 - x193.toNat) (48 - x193.toNat))).run prog w6.drew = .ok (.string (mkS x195)) w11 ∧ 
                  x195.length + [69].length ≤ 9223372036854775807 ∧ 
                  Calls prog 167 ⟨[.int .i64 exp_1]⟩ w11 fun e w12 => ∃ x198 : List UInt8, e = .returned (.string (mkS x198)) ∧ 
                  (x195 ++ [69]).length + x198.length ≤ 9223372036854775807 ∧ 
                  R (.string (mkS ((x195 ++ [69]) ++ x198))) w12) ∧ (Calls prog 167 ⟨[.int .i64 exp_1]⟩ w6.drew fun e w13 => ∃ x198_1 : List UInt8, e = .returned (.string (mkS x198_1)) ∧ 
                  ∃ x195_1 : List UInt8, ∃ w14, (convert 23 9 (.slice (slAddr (some (⟨w3.heap.size, 0, none⟩)) 48 x193.toNat 1) (48 - x193.toNat) (48 - x193.toNat))).run prog w13 = .ok (.string (mkS x195_1)) w14 ∧ 
                  x195_1.length + [69].length ≤ 9223372036854775807 ∧ 
                  (x195_1 ++ [69]).length + x198_1.length ≤ 9223372036854775807 ∧ 
                  R (.string (mkS ((x195_1 ++ [69]) ++ x198_1))) w14)) ∧ (decide (exp_1 < 0) = false →
                ∃ x202 : Int, IntKind.i64.wrap (x177 + posSign) = x202 ∧ 
                  ((0 : Int) ≤ x202 ∧ x202 ≤ (48 : Int) ∧ (48 : Int) ≤ (48 : Int)) ∧ 
                  ∃ x204 : List UInt8, ∃ w15, (convert 23 9 (.slice (slAddr (some (⟨w3.heap.size, 0, none⟩)) 48 x202.toNat 1) (48 - x202.toNat) (48 - x202.toNat))).run prog w6 = .ok (.string (mkS x204)) w15 ∧ 
                  R (.string (mkS x204)) w15))) → Kx_3 exp_1 last w5) →
            ∃ Ix : Nat → Int → Int → Int → Int → Int → Int → Int → World → Prop, (∃ m_2, Ix m_2 x46 high low 48 48 x60 0 w4) ∧
            ∀ m, ∀ exp_2 : Int, ∀ high_1 : Int, ∀ low_1 : Int, ∀ last_1 : Int, ∀ i : Int, ∀ dot : Int, ∀ d9 : Int, ∀ w16, Ix m exp_2 high_1 low_1 last_1 i dot d9 w16 →
            (decide (d9 < 5) = true →
              Calls prog 166 ⟨[.int .u64 high_1, .int .u64 low_1, .int .u32 1000000000]⟩ w16 fun e w17 => ∃ x68 : Int, ∃ x68_1 : Int, ∃ x68_2 : Int, e = .returned (.tuple ⟨[.int .u64 x68, .int .u64 x68_1, .int .u32 x68_2]⟩) ∧ 
                ∃ Ix_1 : Nat → Int → Int → Int → Int → Int → Int → World → Prop, (∃ m_5, Ix_1 m_5 exp_2 last_1 i dot x68_2 0 w17) ∧
                ∀ m_3, ∀ exp_3 : Int, ∀ last_2 : Int, ∀ i_1 : Int, ∀ dot_1 : Int, ∀ rem : Int, ∀ d1 : Int, ∀ w18, Ix_1 m_3 exp_3 last_2 i_1 dot_1 rem d1 w18 →
                (decide (d1 < 9) = true →
                  ∀ Kx_4 : Int → Int → Int → Int → World → Prop, (∀ exp_4 : Int, ∀ last_3 : Int, ∀ i_2 : Int, ∀ dot_2 : Int, ∀ w19,
                    ((10 : Int) ≠ 0 ∧ ∃ x120 : Int, Int.tmod rem 10 = x120 ∧ 
                      ∃ x121 : Int, IntKind.u8.wrap x120 = x121 ∧ 
                      ∃ x122 : Int, IntKind.u8.wrap (48 + x121) = x122 ∧ 
                      (10 : Int) ≠ 0 ∧ ∃ x124 : Int, IntKind.u32.wrap (Int.tdiv rem 10) = x124 ∧ 
                      ∃ x126 : Int, IntKind.i64.wrap (i_2 - 1) = x126 ∧ 
                      ((0 : Int) ≤ x126 ∧ x126 < (48 : Int)) ∧ 
                      CanStore w19 ((⟨w3.heap.size, 0, none⟩ : Addr).add (x126.toNat * 1)) (.int .u8 x122) ∧ ∀ w20, w20 = w19.setCell ((⟨w3.heap.size, 0, none⟩ : Addr).add (x126.toNat * 1)) (.int .u8 x122) → 
                      ∀ Kx_5 : Int → World → Prop, (∀ last_4 : Int, ∀ w21,
                      (∀ Kx_6 : Int → World → Prop, (∀ last_5 : Int, ∀ w22,
                        ((decide (x126 < dot_2) = true →
                          (decide (x68_1 = 0) = true →
                            (decide (x68 = 0) = true →
                              (decide (x124 = 0) = true →
                                Kx_3 exp_4 last_5 w22) ∧ (decide (x124 = 0) = false →
                                ∃ x75 : Int, IntKind.i64.wrap (d1 + 1) = x75 ∧ 
                                  ∃ m_4, m_4 < m_3 ∧ Ix_1 m_4 exp_4 last_5 x126 dot_2 x124 x75 w22)) ∧ (decide (x68 = 0) = false →
                              ∃ x75_1 : Int, IntKind.i64.wrap (d1 + 1) = x75_1 ∧ 
                                ∃ m_4, m_4 < m_3 ∧ Ix_1 m_4 exp_4 last_5 x126 dot_2 x124 x75_1 w22)) ∧ (decide (x68_1 = 0) = false →
                            ∃ x75_2 : Int, IntKind.i64.wrap (d1 + 1) = x75_2 ∧ 
                              ∃ m_4, m_4 < m_3 ∧ Ix_1 m_4 exp_4 last_5 x126 dot_2 x124 x75_2 w22)) ∧ (decide (x126 < dot_2) = false →
                          ∃ x75_3 : Int, IntKind.i64.wrap (d1 + 1) = x75_3 ∧ 
                            ∃ m_4, m_4 < m_3 ∧ Ix_1 m_4 exp_4 last_5 x126 dot_2 x124 x75_3 w22)) → Kx_6 last_5 w22) →
                        ((!decide (x122 = 48)) = true →
                        Kx_6 x126 w21) ∧ ((!decide (x122 = 48)) = false →
                        Kx_6 last_4 w21)) → Kx_5 last_4 w21) →
                      (decide (x68_1 = 0) = true →
                      (decide (x68 = 0) = true →
                        (decide (x124 = 0) = true →
                          (decide (x126 = 47) = true →
                            ∃ x147 : Int, IntKind.i64.wrap (x126 - 5) = x147 ∧ 
                              (decide (dot_2 < x147) = true →
                              Kx_3 exp_4 x126 w20) ∧ (decide (dot_2 < x147) = false →
                              (decide (0 < exp_4) = true →
                                Kx_3 exp_4 x126 w20) ∧ (decide (0 < exp_4) = false →
                                Kx_5 last_3 w20))) ∧ (decide (x126 = 47) = false →
                            Kx_5 last_3 w20)) ∧ (decide (x124 = 0) = false →
                          Kx_5 last_3 w20)) ∧ (decide (x68 = 0) = false →
                        Kx_5 last_3 w20)) ∧ (decide (x68_1 = 0) = false →
                      Kx_5 last_3 w20)) → Kx_4 exp_4 last_3 i_2 dot_2 w19) →
                    ∀ Kx_7 : Bool → World → Prop, (∀ x108 : Bool, ∀ w23,
                    ((x108 = true →
                      ∃ x111 : Int, IntKind.i64.wrap (48 - i_1) = x111 ∧ 
                        ∃ x112 : Int, IntKind.i64.wrap (exp_3 + x111) = x112 ∧ 
                        ∃ x114 : Int, IntKind.i64.wrap (i_1 - 1) = x114 ∧ 
                        ((0 : Int) ≤ x114 ∧ x114 < (48 : Int)) ∧ 
                        CanStore w23 ((⟨w3.heap.size, 0, none⟩ : Addr).add (x114.toNat * 1)) (.int .u8 46) ∧ ∀ w24, w24 = w23.setCell ((⟨w3.heap.size, 0, none⟩ : Addr).add (x114.toNat * 1)) (.int .u8 46) → 
                        ∃ x118 : Int, IntKind.i64.wrap (x114 - 1) = x118 ∧ 
                        Kx_4 x112 x118 x114 48 w24) ∧ (x108 = false →
                      Kx_4 exp_3 last_2 i_1 dot_1 w23)) → Kx_7 x108 w23) →
                    (decide (i_1 < 48) = true →
                    (decide (dot_1 = i_1) = true →
                      Kx_7 true w18) ∧ (decide (dot_1 = i_1) = false →
                      (decide (x68_1 = 0) = true →
                        (decide (x68 = 0) = true →
                          (decide (0 < rem) = true →
                            (decide (rem < 10) = true →
                              ∃ x100 : Int, IntKind.i64.wrap (i_1 - 6) = x100 ∧ 
                                (decide (dot_1 < x100) = true →
                                Kx_7 true w18) ∧ (decide (dot_1 < x100) = false →
                                Kx_7 (decide (0 < exp_3)) w18)) ∧ (decide (rem < 10) = false →
                              Kx_7 false w18)) ∧ (decide (0 < rem) = false →
                            Kx_7 false w18)) ∧ (decide (x68 = 0) = false →
                          Kx_7 false w18)) ∧ (decide (x68_1 = 0) = false →
                        Kx_7 false w18))) ∧ (decide (i_1 < 48) = false →
                    Kx_7 false w18)) ∧ (decide (d1 < 9) = false →
                  ∃ x64 : Int, IntKind.i64.wrap (d9 + 1) = x64 ∧ 
                    ∃ m_1, m_1 < m ∧ Ix m_1 exp_3 x68 x68_1 last_2 i_1 dot_1 x64 w18)) ∧ (decide (d9 < 5) = false →
              Kx_3 exp_2 last_1 w16)) → Kx_2 w3) →
          (decide (high = 0) = true →
          (decide (low = 0) = true →
            (decide (x46 = 0) = true →
              (0 ≤ posSign ∧ posSign ≤ ([45, 48].length : Int)) ∧ 
                R (.string (mkS ([45, 48].drop posSign.toNat))) w2) ∧ (decide (x46 = 0) = false →
              Kx_2 w2)) ∧ (decide (low = 0) = false →
            Kx_2 w2)) ∧ (decide (high = 0) = false →
          Kx_2 w2)) → Kx_1 exp high low w2) →
        (0 : Int) ≤ 61 ∧ ∃ x32 : Int, Int.fdiv h (2 ^ 61) = x32 ∧ 
        ∃ x33 : Int, bits .and .u64 x32 3 = x33 ∧ 
        (decide (x33 = 3) = true →
        (0 : Int) ≤ 47 ∧ ∃ x36 : Int, Int.fdiv h (2 ^ 47) = x36 ∧ 
          ∃ x37 : Int, bits .and .u64 x36 16383 = x37 ∧ 
          ∃ x38 : Int, IntKind.i64.wrap x37 = x38 ∧ 
          Kx_1 x38 0 0 w1) ∧ (decide (x33 = 3) = false →
        (0 : Int) ≤ 49 ∧ ∃ x40 : Int, Int.fdiv h (2 ^ 49) = x40 ∧ 
          ∃ x41 : Int, bits .and .u64 x40 16383 = x41 ∧ 
          ∃ x42 : Int, IntKind.i64.wrap x41 = x42 ∧ 
          ∃ x44 : Int, bits .and .u64 h 562949953421311 = x44 ∧ 
          Kx_1 x42 x44 lx w1)))) → Kx posSign w1) →
  (0 : Int) ≤ 63 ∧ ∃ x18 : Int, Int.fdiv h (2 ^ 63) = x18 ∧ 
  ∃ x19 : Int, bits .and .u64 x18 1 = x19 ∧ 
  (decide (x19 = 0) = true →
  Kx 1 w) ∧ (decide (x19 = 0) = false →
  Kx 0 w)
def an107 : Ann :=
  .seq (.reg (.text []))
  (.scope (.seq (.reg (.text []))
  (.seq (.reg (.text []))
  (.seq (.reg (.text []))
  (.cut [(5, .int .i64)] [0, 1] (.seq (.reg (.text []))
  (.cond 59 60 (.reg (.text [])) .leaf))
  (.seq (.seq (.reg (.text []))
  (.block (.seq (.reg (.text []))
  (.cond 1 2 (.seq (.reg (.text []))
  .leaf) (.seq (.reg (.text []))
  (.cond 3 4 (.seq (.reg (.text []))
  .leaf) .leaf))))))
  (.seq (.reg (.text []))
  (.cut [(6, .int .i64), (7, .int .u64), (8, .int .u64)] [5] (.seq (.reg (.text []))
  (.cond 57 58 (.seq (.reg (.text []))
  (.reg (.text []))) (.seq (.reg (.text []))
  (.reg (.text [])))))
  (.seq (.reg (.text []))
  (.cut [] [5, 6, 7, 8] (.seq (.reg (.text [.p .n, .p .n, .p .n, .gs .n 51 52, .p .n, .p .n, .p .n, .on 52 (.p .n) (.gs .n 53 54)]))
  (.on 53 (.cond 55 56 (.seq (.reg (.text []))
  .leaf) .leaf) (.no .leaf)))
  (.seq (.reg (.text []))
  (.seq (.reg (.text []))
  (.seq (.reg (.text []))
  (.seq (.reg (.text []))
  (.seq (.reg (.text []))
  (.seq .leaf
  (.cut [(6, .int .i64), (10, .int .i64)] [5, 9] (.seq (.reg (.text []))
  (.block (.loop [(6, .int .i64), (7, .int .u64), (8, .int .u64), (10, .int .i64), (11, .int .i64), (12, .int .i64), (14, .int .i64)] [5, 9] (.seq (.seq (.reg (.text []))
  (.cond 9 10 .leaf .leaf))
  (.seq (.block (.seq (.reg (.text [.p .n, .p .n, .p (.sh [.int .u64, .int .u64, .int .u32])]))
  (.seq (.reg (.text []))
  (.block (.loop [(6, .int .i64), (10, .int .i64), (11, .int .i64), (12, .int .i64), (13, .int .u32), (15, .int .i64)] [5, 7, 8, 9, 14] (.seq (.seq (.reg (.text []))
  (.cond 11 12 .leaf .leaf))
  (.seq (.block (.cut [(6, .int .i64), (10, .int .i64), (11, .int .i64), (12, .int .i64)] [5, 7, 8, 9, 13, 14, 15] (.cut [(108, .bool)] [5, 6, 7, 8, 9, 10, 11, 12, 13, 14, 15] (.reg (.text [.p .n, .p .n, .p .n, .gs .n 37 38, .p .n, .p .n, .p .n, .on 38 (.p .n) (.gs .n 39 40), .p .n, .p .n, .on 40 (.gs .n 41 42) (.p .n), .p .n, .p .n, .p .n, .on 41 (.gs .n 43 44) (.p .n), .p .n, .p .n, .p .n, .on 43 (.gs .n 45 46) (.p .n), .p .n, .p .n, .p .n, .on 45 (.gs .n 47 48) (.p .n), .p .n, .p .n, .p .n, .p .n, .on 47 (.gs .n 49 50) (.p .n)]))
  (.cond 35 36 (.seq (.reg (.text []))
  (.seq (.reg (.text []))
  (.seq (.reg (.text []))
  (.seq (.reg (.text []))
  (.reg (.text [])))))) .leaf))
  (.seq (.reg (.text []))
  (.seq (.reg (.text []))
  (.seq (.reg (.text []))
  (.seq (.reg (.text []))
  (.cut [(10, .int .i64)] [5, 6, 7, 8, 9, 11, 12, 13, 14, 15, 16] (.seq (.reg (.text [.p .n, .p .n, .p .n, .gs .n 23 24, .p .n, .p .n, .p .n, .on 24 (.p .n) (.gs .n 25 26), .p .n, .p .n, .p .n, .on 25 (.gs .n 27 28) (.p .n), .p .n, .p .n, .p .n, .on 27 (.gs .n 29 30) (.p .n), .p .n, .p .n, .p .n, .p .n, .on 29 (.gs .n 31 32) (.p .n)]))
  (.on 32 (.cond 33 34 (.seq (.reg (.text []))
  .leaf) .leaf) (.on 31 (.yes (.seq (.reg (.text []))
  .leaf)) (.no .leaf))))
  (.cut [(10, .int .i64)] [5, 6, 7, 8, 9, 11, 12, 13, 14, 15] (.seq (.reg (.text []))
  (.cond 21 22 (.reg (.text [])) .leaf))
  (.seq (.reg (.text [.p .n, .p .n, .p .n, .p .n, .gs .n 13 14, .p .n, .p .n, .p .n, .on 14 (.p .n) (.gs .n 15 16), .p .n, .p .n, .p .n, .on 15 (.gs .n 17 18) (.p .n)]))
  (.on 17 (.cond 19 20 .leaf .leaf) (.no .leaf)))))))))))
  (.reg (.text [])))))))))
  (.reg (.text [])))))))
  (.seq (.reg (.text []))
  (.seq (.reg (.text []))
  (.seq (.seq (.reg (.text []))
  (.cond 5 6 (.seq (.reg (.held [4, 7] (.take 0 (.p .n) (.take 1 (.p .n) (.take 2 (.p .n) (.take 3 (.p .n) (.take 6 (.p .n) (.run 4 (.p (.sh [.str])) (.take 5 (.p .n) (.run 7 (.p (.sh [.str])) (.take 8 (.p .n) (.take 9 (.p .n) .done)) .done)) (.run 7 (.p (.sh [.str])) (.run 4 (.p (.sh [.str])) (.take 5 (.p .n) (.take 8 (.p .n) (.take 9 (.p .n) .done))) .done) .done)))))))))
  .leaf) .leaf))
  (.seq (.seq (.reg (.text []))
  (.cond 7 8 (.seq (.reg (.held [4, 7] (.take 0 (.p .n) (.take 1 (.p .n) (.take 2 (.p .n) (.take 3 (.p .n) (.take 6 (.p .n) (.run 4 (.p (.sh [.str])) (.take 5 (.p .n) (.run 7 (.p (.sh [.str])) (.take 8 (.p .n) (.take 9 (.p .n) .done)) .done)) (.run 7 (.p (.sh [.str])) (.run 4 (.p (.sh [.str])) (.take 5 (.p .n) (.take 8 (.p .n) (.take 9 (.p .n) .done))) .done) .done)))))))))
  .leaf) .leaf))
  (.seq (.reg (.text [.p .n, .p .n, .p .n, .p .n, .p (.sh [.str])]))
  .leaf))))))))))))))))))))))
theorem vcE107 (h : Int) (lx : Int) (w : World) (R : Value → World → Prop) : vcFn prog f107 an107 [.int .u64 h, .int .u64 lx] w R = VC107 h lx w R := by kernel_rfl
theorem c107 (h : Int) (lx : Int) (w : World) (R : Value → World → Prop) (hvc : VC107 h lx w R) : Calls prog 107 ⟨[.int .u64 h, .int .u64 lx]⟩ w fun e w' => ∃ v, e = .returned v ∧ R v w' :=
  vc_calls mixed (fn := f107) (ann := an107) (by kernel_rfl) ((vcE107 h lx w R).symm ▸ hvc)

/- F166: decimal128.divmod -/
def VC166 (h : Int) (lx : Int) (div : Int) (w : World) (R : Value → World → Prop) : Prop :=
  ∃ x23 : Int, IntKind.u64.wrap div = x23 ∧ 
  (0 : Int) ≤ 32 ∧ ∃ x25 : Int, Int.fdiv h (2 ^ 32) = x25 ∧ 
  x23 ≠ 0 ∧ ∃ x28 : Int, IntKind.u64.wrap (Int.tdiv x25 x23) = x28 ∧ 
  x23 ≠ 0 ∧ ∃ x31 : Int, Int.tmod x25 x23 = x31 ∧ 
  (0 : Int) ≤ 32 ∧ ∃ x33 : Int, IntKind.u64.wrap (x31 * 2 ^ 32) = x33 ∧ 
  ∃ x35 : Int, bits .and .u64 h 4294967295 = x35 ∧ 
  ∃ x36 : Int, IntKind.u64.wrap (x33 + x35) = x36 ∧ 
  x23 ≠ 0 ∧ ∃ x39 : Int, IntKind.u64.wrap (Int.tdiv x36 x23) = x39 ∧ 
  x23 ≠ 0 ∧ ∃ x42 : Int, Int.tmod x36 x23 = x42 ∧ 
  (0 : Int) ≤ 32 ∧ ∃ x44 : Int, IntKind.u64.wrap (x42 * 2 ^ 32) = x44 ∧ 
  (0 : Int) ≤ 32 ∧ ∃ x46 : Int, Int.fdiv lx (2 ^ 32) = x46 ∧ 
  ∃ x47 : Int, IntKind.u64.wrap (x44 + x46) = x47 ∧ 
  x23 ≠ 0 ∧ ∃ x50 : Int, IntKind.u64.wrap (Int.tdiv x47 x23) = x50 ∧ 
  x23 ≠ 0 ∧ ∃ x53 : Int, Int.tmod x47 x23 = x53 ∧ 
  (0 : Int) ≤ 32 ∧ ∃ x55 : Int, IntKind.u64.wrap (x53 * 2 ^ 32) = x55 ∧ 
  ∃ x57 : Int, bits .and .u64 lx 4294967295 = x57 ∧ 
  ∃ x58 : Int, IntKind.u64.wrap (x55 + x57) = x58 ∧ 
  x23 ≠ 0 ∧ ∃ x61 : Int, IntKind.u64.wrap (Int.tdiv x58 x23) = x61 ∧ 
  x23 ≠ 0 ∧ ∃ x64 : Int, Int.tmod x58 x23 = x64 ∧ 
  (0 : Int) ≤ 32 ∧ ∃ x66 : Int, IntKind.u64.wrap (x28 * 2 ^ 32) = x66 ∧ 
  ∃ x68 : Int, bits .or .u64 x66 x39 = x68 ∧ 
  (0 : Int) ≤ 32 ∧ ∃ x70 : Int, IntKind.u64.wrap (x50 * 2 ^ 32) = x70 ∧ 
  ∃ x72 : Int, bits .or .u64 x70 x61 = x72 ∧ 
  ∃ x74 : Int, IntKind.u32.wrap x64 = x74 ∧ 
  R (.tuple ⟨[.int .u64 x68, .int .u64 x72, .int .u32 x74]⟩) w
def an166 : Ann :=
  .seq (.reg (.text []))
  (.seq (.reg (.text []))
  (.seq (.reg (.text []))
  (.seq (.reg (.text []))
  (.seq (.reg (.text []))
  (.seq (.reg (.text []))
  (.seq (.reg (.text []))
  (.seq (.reg (.text []))
  (.seq (.reg (.text []))
  (.seq (.reg (.text []))
  (.seq (.reg (.text []))
  (.seq (.reg (.text []))
  (.seq (.reg (.text []))
  (.seq (.reg (.text []))
  (.seq (.reg (.text []))
  .leaf))))))))))))))
theorem vcE166 (h : Int) (lx : Int) (div : Int) (w : World) (R : Value → World → Prop) : vcFn prog f166 an166 [.int .u64 h, .int .u64 lx, .int .u32 div] w R = VC166 h lx div w R := by kernel_rfl
theorem c166 (h : Int) (lx : Int) (div : Int) (w : World) (R : Value → World → Prop) (hvc : VC166 h lx div w R) : Calls prog 166 ⟨[.int .u64 h, .int .u64 lx, .int .u32 div]⟩ w fun e w' => ∃ v, e = .returned v ∧ R v w' :=
  vc_calls mixed (fn := f166) (ann := an166) (by kernel_rfl) ((vcE166 h lx div w R).symm ▸ hvc)

/- F167: strconv.Itoa -/
def VC167 (i : Int) (w : World) (R : Value → World → Prop) : Prop :=
  Calls prog 216 ⟨[.int .i64 i]⟩ w fun e w1 => ∃ x4 : List UInt8, e = .returned (.string (mkS x4)) ∧ 
  R (.string (mkS x4)) w1
def an167 : Ann :=
  .seq (.reg (.text []))
  (.seq (.reg (.text [.p .n, .p (.sh [.str])]))
  .leaf)
theorem vcE167 (i : Int) (w : World) (R : Value → World → Prop) : vcFn prog f167 an167 [.int .i64 i] w R = VC167 i w R := by kernel_rfl
theorem c167 (i : Int) (w : World) (R : Value → World → Prop) (hvc : VC167 i w R) : Calls prog 167 ⟨[.int .i64 i]⟩ w fun e w' => ∃ v, e = .returned v ∧ R v w' :=
  vc_calls mixed (fn := f167) (ann := an167) (by kernel_rfl) ((vcE167 i w R).symm ▸ hvc)

/- F216: strconv.Itoa -/
def VC216 (i : Int) (w : World) (R : Value → World → Prop) : Prop :=
  Calls prog 63 ⟨[.int .i64 i, .int .i64 10]⟩ w fun e w1 => ∃ x4 : List UInt8, e = .returned (.string (mkS x4)) ∧ 
  R (.string (mkS x4)) w1
def an216 : Ann :=
  .seq (.reg (.text []))
  (.seq (.reg (.text [.p .n, .p (.sh [.str])]))
  .leaf)
theorem vcE216 (i : Int) (w : World) (R : Value → World → Prop) : vcFn prog f216 an216 [.int .i64 i] w R = VC216 i w R := by kernel_rfl
theorem c216 (i : Int) (w : World) (R : Value → World → Prop) (hvc : VC216 i w R) : Calls prog 216 ⟨[.int .i64 i]⟩ w fun e w' => ∃ v, e = .returned v ∧ R v w' :=
  vc_calls mixed (fn := f216) (ann := an216) (by kernel_rfl) ((vcE216 i w R).symm ▸ hvc)

end Go.Proofs.Tryz
/- The writer's helpers: a number's text, hexadecimal digits, an ObjectID. -/
set_option linter.unusedVariables false
namespace Go.Proofs.Tryz
open Go.Vc Go.RowKit Go.Sort

theorem get_len {s : List UInt8} {k : Nat} (h : k < s.length) : ∃ b, s[k]? = some b ∧ (mkS s).get! k = b := by
  obtain ⟨b, hb⟩ : ∃ b, s[k]? = some b := ⟨_, List.getElem?_eq_getElem h⟩
  exact ⟨b, hb, get_mkS hb⟩
/-- The decoder at a byte that is not ASCII: no ASCII comes out, none is passed over. -/
theorem dec_big (s : List UInt8) (pos : Nat) (b : UInt8) (hb : s[pos]? = some b) (h : 128 ≤ b.toNat) :
    128 ≤ (Utf8.decode (mkS s) pos).1 ∧ 1 ≤ (Utf8.decode (mkS s) pos).2 ∧ pos + (Utf8.decode (mkS s) pos).2 ≤ s.length ∧ ∀ j, 1 ≤ j → j < (Utf8.decode (mkS s) pos).2 → ∃ c, s[pos + j]? = some c ∧ 128 ≤ c.toNat := by
  have hlt := (List.getElem?_eq_some_iff.1 hb).1
  have hsz : (mkS s).size = s.length := rfl
  rw [Lib.decode_at, get_mkS hb, hsz]
  have cont : ∀ j, j < s.length - pos → ((mkS s).get! (pos + j)).toNat / 64 = 2 → ∃ c, s[pos + j]? = some c ∧ 128 ≤ c.toNat := by
    intro j hj hc
    obtain ⟨c, h1, h2⟩ := get_len (s := s) (k := pos + j) (by omega)
    rw [h2] at hc
    exact ⟨c, h1, by omega⟩
  unfold Lib.decodeN
  rw [if_neg (by omega)]
  split
  · rename_i h2
    split
    · refine ⟨by simp only; omega, by simp, by simp only; omega, fun j h1 hj => ?_⟩
      have : j = 1 := by simp only at hj; omega
      subst this; exact cont 1 h2.2.1 h2.2.2
    · exact ⟨by simp, by simp, by simp only; omega, fun j h1 hj => by simp only at hj; omega⟩
  split
  · rename_i h3
    split
    · refine ⟨by simp only; omega, by simp, by simp only; omega, fun j h1 hj => ?_⟩
      have : j = 1 ∨ j = 2 := by simp only at hj; omega
      rcases this with rfl | rfl
      · exact cont 1 h3.2.1.1 h3.2.1.2
      · exact cont 2 h3.2.2.1 h3.2.2.2
    · exact ⟨by simp, by simp, by simp only; omega, fun j h1 hj => by simp only at hj; omega⟩
  split
  · rename_i h4
    split
    · refine ⟨by simp only; omega, by simp, by simp only; omega, fun j h1 hj => ?_⟩
      have : j = 1 ∨ j = 2 ∨ j = 3 := by simp only at hj; omega
      rcases this with rfl | rfl | rfl
      · exact cont 1 h4.2.1.1 h4.2.1.2
      · exact cont 2 h4.2.2.1.1 h4.2.2.1.2
      · exact cont 3 h4.2.2.2.1 h4.2.2.2.2
    · exact ⟨by simp, by simp, by simp only; omega, fun j h1 hj => by simp only at hj; omega⟩
  · exact ⟨by simp, by simp, by simp only; omega, fun j h1 hj => by simp only at hj; omega⟩

def hasB (s : List UInt8) (r : Nat) : Bool := s.any fun b => b.toNat == r
theorem hasB_drop_cons {s : List UInt8} {i : Nat} {b : UInt8} (h : s[i]? = some b) (r : Nat) : hasB (s.drop i) r = (b.toNat == r || hasB (s.drop (i + 1)) r) := by
  unfold hasB; rw [drop_cons h]; rfl
theorem ret285 (s : List UInt8) (r : Nat) (hr : r < 128) (hs : s.length ≤ 1000000) (w : World) : Calls prog 285 ⟨[.string (mkS s), .int .i32 (r : Int)]⟩ w fun e w' => ∃ x : Int, e = .returned (.int .i64 x) ∧ decide (0 ≤ x) = hasB s r ∧ Keeps w w' := by
  refine calls_q (c285 s r w (fun v w' => ∃ x : Int, v = .int .i64 x ∧ decide (0 ≤ x) = hasB s r ∧ Keeps w w') ?_) fun v w' ⟨x, hv, h⟩ => ⟨x, by rw [hv], h⟩
  unfold VC285
  intro Kx hK
  have key : Kx w := by
    refine hK w fun w2 hw2 => ?_
    have hk2 : Keeps w w2 := by rw [hw2]; exact (Keeps.refl w).alloc _
    refine ⟨fun m w3 => Keeps w w3 ∧ ∃ pos : Nat, w3.heap[w.heap.size]? = some (.stringIter (mkS s) pos) ∧ pos ≤ s.length ∧ m = s.length - pos ∧ hasB s r = hasB (s.drop pos) r, ⟨s.length, hk2, 0, by rw [hw2]; exact heap_alloc_new w _, by omega, rfl, by simp⟩, ?_⟩
    rintro m w3 ⟨hk3, pos, hit, hpl, rfl, hh⟩
    refine ⟨s, pos, hit, fun hlt w4 hw4 => ?_, fun hge => ?_⟩
    · obtain ⟨b, hb⟩ : ∃ b, s[pos]? = some b := ⟨_, List.getElem?_eq_getElem hlt⟩
      have hk4 : Keeps w w4 := by rw [hw4]; exact below_iter hk3 _ (Nat.le_refl _) _
      have hit4 : w4.heap[w.heap.size]? = some (.stringIter (mkS s) (pos + (Utf8.decode (mkS s) pos).2)) := by
        rw [hw4]
        have : w.heap.size < w3.heap.size := (Array.getElem?_eq_some_iff.1 hit).1
        simp [this]
      have hcons := hasB_drop_cons hb r
      by_cases hba : b.toNat < 128
      · have hd := decode_one s pos b hb hba
        rw [hd] at hit4 ⊢
        refine ⟨fun he => ⟨_, rfl, ?_, hk4⟩, fun he => ⟨s.length - (pos + 1), by omega, hk4, pos + 1, hit4, by omega, rfl, ?_⟩⟩
        · have he := of_decide_eq_true he
          have : b.toNat = r := by omega
          rw [hh, hcons, this]
          simp
        · have he := of_decide_eq_false he
          have : (b.toNat == r) = false := by rw [beq_eq_false_iff_ne]; omega
          rw [hh, hcons, this]; rfl
      · obtain ⟨h1, h2, h3, h4⟩ := dec_big s pos b hb (by omega)
        generalize Utf8.decode (mkS s) pos = D at *
        refine ⟨fun he => absurd (of_decide_eq_true he) (by omega), fun he => ⟨s.length - (pos + D.2), by omega, hk4, pos + D.2, hit4, h3, rfl, ?_⟩⟩
        rw [hh]
        have skip : ∀ k, k ≤ D.2 → 1 ≤ k → hasB (s.drop pos) r = hasB (s.drop (pos + k)) r := by
          intro k
          induction k with
          | zero => intro _ h; omega
          | succ k ih =>
            intro hk _
            rcases Nat.eq_zero_or_pos k with rfl | hk0
            · rw [hcons]
              have : (b.toNat == r) = false := by rw [beq_eq_false_iff_ne]; omega
              rw [this]; rfl
            · rw [ih (by omega) hk0]
              obtain ⟨c, hc1, hc2⟩ := h4 k hk0 (by omega)
              rw [hasB_drop_cons hc1 r]
              have : (c.toNat == r) = false := by rw [beq_eq_false_iff_ne]; omega
              rw [this]; rfl
        exact skip D.2 (Nat.le_refl _) h2
    · have hd : s.drop pos = [] := List.drop_eq_nil_of_le (by omega)
      refine ⟨_, rfl, ?_, hk3⟩
      rw [hh, hd]; rfl
  refine ⟨fun _ => ⟨fun h => absurd (of_decide_eq_true h) (by omega), fun _ => ⟨fun h => absurd (of_decide_eq_true h) (by omega), fun _ => ⟨fun h => absurd (of_decide_eq_true h) (by omega), fun _ => key⟩⟩⟩, fun _ => key⟩
theorem ret273 (s : List UInt8) (r : Nat) (hr : r < 128) (hs : s.length ≤ 1000000) (w : World) : Ret 273 [.string (mkS s), .int .i32 (r : Int)] w (.bool (hasB s r)) := by
  refine Ret.of (c273 s r w _ ?_)
  unfold VC273
  refine (ret285 s r hr hs w).mono ?_
  rintro e w1 ⟨x, rfl, hx, hk⟩
  exact ⟨x, rfl, by rw [hx], hk⟩
theorem hasB_dot (s : List UInt8) : (hasB s 69 || hasB s 46) = dotB s := by
  unfold hasB dotB
  induction s with
  | nil => rfl
  | cons b r ih =>
    have e69 : (b.toNat == 69) = (b == 69) := by
      rw [Bool.eq_iff_iff]; simp only [beq_iff_eq]
      exact ⟨fun h => UInt8.toNat_inj.1 h, fun h => by rw [h]; rfl⟩
    have e46 : (b.toNat == 46) = (b == 46) := by
      rw [Bool.eq_iff_iff]; simp only [beq_iff_eq]
      exact ⟨fun h => UInt8.toNat_inj.1 h, fun h => by rw [h]; rfl⟩
    simp only [List.any_cons, e69, e46]
    rw [← ih]
    cases (b == 69) <;> cases (b == 46) <;> simp
theorem nan_read {n : Nat} (h : nanB n = true) : ∃ s t, FloatKind.f64.format.read n = .nan s t := by
  unfold nanB Ieee.Format.order at h
  cases hr : FloatKind.f64.format.read n with
  | number s m i =>
    rw [hr] at h
    simp [Ieee.Datum.order, Std.ReflCmp.compare_self] at h
  | infinity s =>
    rw [hr] at h
    simp [Ieee.Datum.order, Std.ReflCmp.compare_self] at h
  | nan s t => exact ⟨s, t, rfl⟩
theorem nan_rung {n : Nat} {s : Bool} {t : Nat} (h : FloatKind.f64.format.read n = .nan s t) (m : Nat) (hm : m % FloatKind.f64.format.signWeight = n % FloatKind.f64.format.signWeight) : ∃ s t, FloatKind.f64.format.read m = .nan s t := by
  unfold Ieee.Format.read at h ⊢
  simp only [] at h ⊢
  rw [hm]
  generalize n % FloatKind.f64.format.signWeight = r at *
  split at h
  · cases h
  · rename_i h1
    rw [if_neg h1]
    split at h
    · cases h
    · rename_i h2
      rw [if_neg h2]
      split at h
      · cases h
      · rename_i h3
        rw [if_neg h3]
        exact ⟨_, _, rfl⟩
theorem nan_not_inf {n : Nat} (h : nanB n = true) : infB n = false ∧ ninfB n = false := by
  obtain ⟨s, t, hr⟩ := nan_read h
  refine ⟨?_, ?_⟩
  · unfold infB Ieee.Format.order
    rw [hr]; rfl
  · obtain ⟨s', t', hr'⟩ := nan_rung hr (Op.negFloat .f64 n) (by
      show (n ^^^ 2 ^ 63) % 2 ^ 63 = n % 2 ^ 63
      rw [Nat.xor_mod_two_pow, Nat.mod_self, Nat.xor_zero])
    unfold ninfB Ieee.Format.order
    rw [hr']; rfl
theorem ret231 {F : Nat → List UInt8} (hF : FloatIs F) (n : Nat) (hn : n < 18446744073709551616) (w : World) (ht : Tabs w) : Ret 231 [.float .f64 n] w (.string (mkS (dblF F n))) := by
  refine Ret.of (c231 n w _ ?_)
  unfold VC231
  have hl := (hF n).1
  by_cases hnan : nanB n = true
  · -- none: neither of the infinite ones
    have hdn : dblF F n = [78, 97, 78] := by unfold dblF; rw [if_pos hnan]
    obtain ⟨nan_inf, nan_ninf⟩ := nan_not_inf hnan
    refine (ret29p n w).go fun w1 hk1 => ⟨_, rfl, (fun h => by rw [nan_inf] at h; cases h), fun _ => (ret29n n w1).go fun w2 hk2 => ⟨_, rfl, (fun h => by rw [nan_ninf] at h; cases h), fun _ => (ret28 n w2).go fun w3 hk3 => ⟨_, rfl, (fun _ => ⟨by rw [hdn], (hk1.trans hk2).trans hk3⟩), (fun h => by rw [hnan] at h; cases h)⟩⟩⟩
  · have hnan : nanB n = false := by simpa using hnan
    refine (ret29p n w).go fun w1 hk1 => ⟨_, rfl, fun h => ⟨?_, hk1⟩, fun h1 => (ret29n n w1).go fun w2 hk2 => ⟨_, rfl, fun h => ⟨?_, hk1.trans hk2⟩, fun h2 => (ret28 n w2).go fun w3 hk3 => ⟨_, rfl, (fun h => by rw [hnan] at h; cases h), fun _ => ?_⟩⟩⟩
    · unfold dblF; rw [hnan, h]; rfl
    · unfold dblF; rw [hnan, h1, h]; rfl
    · have hk3' := (hk1.trans hk2).trans hk3
      refine ((hF n).2 hn w3 (ht.keeps hk3')).go fun w4 hk4 => ⟨_, rfl, (ret273 (F n) 69 (by decide) (by omega) w4).go fun w5 hk5 => ⟨_, rfl, ?_⟩⟩
      have hk5' := (hk3'.trans hk4).trans hk5
      have hdbl : dblF F n = if hasB (F n) 69 || hasB (F n) 46 then F n else F n ++ [46, 48] := by
        unfold dblF; rw [hnan, h1, h2, hasB_dot]; rfl
      refine ⟨fun hx => (ret273 (F n) 46 (by decide) (by omega) w5).go fun w6 hk6 => ⟨_, rfl, fun hy => ⟨by simp; omega, ?_, hk5'.trans hk6⟩, fun hy => ⟨?_, hk5'.trans hk6⟩⟩, fun hx => ⟨?_, hk5'⟩⟩
      · have hx : hasB (F n) 69 = false := by simpa using hx
        have hy : hasB (F n) 46 = false := by simpa using hy
        rw [hdbl, hx, hy]; rfl
      · have hy : hasB (F n) 46 = true := by simpa using hy
        rw [hdbl, hy, Bool.or_true]; rfl
      · have hx : hasB (F n) 69 = true := by simpa using hx
        rw [hdbl, hx]; rfl
end Go.Proofs.Tryz
