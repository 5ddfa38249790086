/- Parts of a proof, joined: VB, A2, A3. -/
import Derived.Test.YtfofafjemgfobaaGreatDoorZ4
set_option linter.unusedVariables false
set_option maxRecDepth 100000
namespace Go.Proofs.Tryz
open Go.Vc

/- F24: spec.ExtString -/
def VC24 (s : List UInt8) (escape : Bool) (w : World) (R : Value → World → Prop) : Prop :=
  ∀ w1, w1 = w.alloc (.cells ⟨[.int .u8 34]⟩ 5) → 
  ∃ Ix : Nat → Option Addr → Nat → Nat → Int → World → Prop, (∃ m_2, Ix m_2 (some (⟨w.heap.size, 0, none⟩)) 1 1 0 w1) ∧
  ∀ m, ∀ (out : Option Addr) (out_n out_c : Nat), ∀ i : Int, ∀ w2, Ix m out out_n out_c i w2 →
  (decide (i < (s.length : Int)) = true →
    (0 ≤ i ∧ i ≤ (s.length : Int)) ∧ 
      Calls prog 48 ⟨[.string (mkS (s.drop i.toNat))]⟩ w2 fun e w3 => ∃ x18 : Int, ∃ x18_1 : Int, e = .returned (.tuple ⟨[.int .i64 x18, .int .i64 x18_1]⟩) ∧ 
      ∀ Kx : Int → Int → World → Prop, (∀ nx : Int, ∀ c : Int, ∀ w4,
      (∀ Kx_1 : Bool → World → Prop, (∀ x35 : Bool, ∀ w5,
        ((x35 = true →
          ∃ x44 : Int, IntKind.u8.wrap c = x44 ∧ 
            ∀ w6, w6 = w5.alloc (.cells ⟨[.int .u8 92, .int .u8 x44]⟩ 5) → 
            ∃ (x46 : Option Addr) (x46_n x46_c : Nat), ∃ w7, BuiltinOk prog .append #[23, 23] 23 [false, false] [.slice out out_n out_c, .slice (some (⟨w5.heap.size, 0, none⟩)) 2 2] w6 (.slice x46 x46_n x46_c) w7 ∧ 
            ∃ x115 : Int, IntKind.i64.wrap (i + nx) = x115 ∧ 
            ∃ m_1, m_1 < m ∧ Ix m_1 x46 x46_n x46_c x115 w7) ∧ (x35 = false →
          ∀ Kx_2 : Bool → World → Prop, (∀ x47 : Bool, ∀ w8,
            ((x47 = true →
              ∃ x68 : Int, IntKind.i64.wrap (c - 8) = x68 ∧ 
                ∃ x69 : UInt8, ((0 : Int) ≤ x68 ∧ [98, 116, 110, 46, 102, 114][x68.toNat]? = some x69) ∧ 
                ∀ w9, w9 = w8.alloc (.cells ⟨[.int .u8 92, .int .u8 (x69.toNat : Int)]⟩ 5) → 
                ∃ (x71 : Option Addr) (x71_n x71_c : Nat), ∃ w10, BuiltinOk prog .append #[23, 23] 23 [false, false] [.slice out out_n out_c, .slice (some (⟨w8.heap.size, 0, none⟩)) 2 2] w9 (.slice x71 x71_n x71_c) w10 ∧ 
                ∃ x115_1 : Int, IntKind.i64.wrap (i + nx) = x115_1 ∧ 
                ∃ m_1, m_1 < m ∧ Ix m_1 x71 x71_n x71_c x115_1 w10) ∧ (x47 = false →
              ∀ Kx_3 : Bool → World → Prop, (∀ x72 : Bool, ∀ w11,
                ((x72 = true →
                  ∃ (x91 : Option Addr) (x91_n x91_c : Nat), ∃ w12, BuiltinOk prog .append #[23, 9] 23 [false, true] [.slice out out_n out_c, .string (mkS [92, 117, 48, 48])] w11 (.slice x91 x91_n x91_c) w12 ∧ 
                    ∃ x94 : Int, IntKind.u8.wrap c = x94 ∧ 
                    Calls prog 32 ⟨[.int .u8 x94]⟩ w12 fun e w13 => ∃ x95 : List UInt8, e = .returned (.string (mkS x95)) ∧ 
                    ∃ (x96 : Option Addr) (x96_n x96_c : Nat), ∃ w14, BuiltinOk prog .append #[23, 9] 23 [false, false] [.slice x91 x91_n x91_c, .string (mkS x95)] w13 (.slice x96 x96_n x96_c) w14 ∧ 
                    ∃ x115_2 : Int, IntKind.i64.wrap (i + nx) = x115_2 ∧ 
                    ∃ m_1, m_1 < m ∧ Ix m_1 x96 x96_n x96_c x115_2 w14) ∧ (x72 = false →
                  ∀ Kx_4 : Bool → World → Prop, (∀ x97 : Bool, ∀ w15,
                    ((x97 = true →
                      ∃ (x105 : Option Addr) (x105_n x105_c : Nat), ∃ w16, BuiltinOk prog .append #[23, 9] 23 [false, true] [.slice out out_n out_c, .string (mkS [92, 117, 50, 48, 50])] w15 (.slice x105 x105_n x105_c) w16 ∧ 
                        ∃ x108 : Int, IntKind.i64.wrap (56 + c) = x108 ∧ 
                        ∃ x109 : Int, IntKind.i64.wrap (x108 - 8232) = x109 ∧ 
                        ∃ x110 : Int, IntKind.u8.wrap x109 = x110 ∧ 
                        ∀ w17, w17 = w16.alloc (.cells ⟨[.int .u8 x110]⟩ 5) → 
                        ∃ (x112 : Option Addr) (x112_n x112_c : Nat), ∃ w18, BuiltinOk prog .append #[23, 23] 23 [false, false] [.slice x105 x105_n x105_c, .slice (some (⟨w16.heap.size, 0, none⟩)) 1 1] w17 (.slice x112 x112_n x112_c) w18 ∧ 
                        ∃ x115_3 : Int, IntKind.i64.wrap (i + nx) = x115_3 ∧ 
                        ∃ m_1, m_1 < m ∧ Ix m_1 x112 x112_n x112_c x115_3 w18) ∧ (x97 = false →
                      ∃ x32 : Int, IntKind.i64.wrap (i + nx) = x32 ∧ 
                        ((0 : Int) ≤ i ∧ i ≤ x32 ∧ x32 ≤ (s.length : Int)) ∧ 
                        ∃ (x34 : Option Addr) (x34_n x34_c : Nat), ∃ w19, BuiltinOk prog .append #[23, 9] 23 [false, false] [.slice out out_n out_c, .string (mkS ((s.drop i.toNat).take (x32.toNat - i.toNat)))] w15 (.slice x34 x34_n x34_c) w19 ∧ 
                        ∃ x115_4 : Int, IntKind.i64.wrap (i + nx) = x115_4 ∧ 
                        ∃ m_1, m_1 < m ∧ Ix m_1 x34 x34_n x34_c x115_4 w19)) → Kx_4 x97 w15) →
                    (decide (c = 8232) = true →
                    Kx_4 true w11) ∧ (decide (c = 8232) = false →
                    Kx_4 (decide (c = 8233)) w11))) → Kx_3 x72 w11) →
                (decide (c < 32) = true →
                Kx_3 true w8) ∧ (decide (c < 32) = false →
                (escape = true →
                  (decide (c = 60) = true →
                    Kx_3 true w8) ∧ (decide (c = 60) = false →
                    (decide (c = 62) = true →
                      Kx_3 true w8) ∧ (decide (c = 62) = false →
                      Kx_3 (decide (c = 38)) w8))) ∧ (escape = false →
                  Kx_3 false w8)))) → Kx_2 x47 w8) →
            (decide (c = 8) = true →
            Kx_2 true w5) ∧ (decide (c = 8) = false →
            (decide (c = 9) = true →
              Kx_2 true w5) ∧ (decide (c = 9) = false →
              (decide (c = 10) = true →
                Kx_2 true w5) ∧ (decide (c = 10) = false →
                (decide (c = 12) = true →
                  Kx_2 true w5) ∧ (decide (c = 12) = false →
                  Kx_2 (decide (c = 13)) w5)))))) → Kx_1 x35 w5) →
        (decide (c = 34) = true →
        Kx_1 true w4) ∧ (decide (c = 34) = false →
        Kx_1 (decide (c = 92)) w4)) → Kx nx c w4) →
      (decide (x18 = 0) = true →
      ∃ x25 : UInt8, ((0 : Int) ≤ i ∧ s[i.toNat]? = some x25) ∧ 
        ∃ x26 : Int, IntKind.i64.wrap (x25.toNat : Int) = x26 ∧ 
        Kx 1 x26 w3.drew) ∧ (decide (x18 = 0) = false →
      Kx x18 x18_1 w3)) ∧ (decide (i < (s.length : Int)) = false →
    ∀ w20, w20 = w2.alloc (.cells ⟨[.int .u8 34]⟩ 5) → 
      ∃ (x118 : Option Addr) (x118_n x118_c : Nat), ∃ w21, BuiltinOk prog .append #[23, 23] 23 [false, false] [.slice out out_n out_c, .slice (some (⟨w2.heap.size, 0, none⟩)) 1 1] w20 (.slice x118 x118_n x118_c) w21 ∧ 
      ∃ x119 : List UInt8, ∃ w22, (convert 23 9 (.slice x118 x118_n x118_c)).run prog w21 = .ok (.string (mkS x119)) w22 ∧ 
      R (.string (mkS x119)) w22)
def an24 : Ann :=
  .seq (.reg (.text []))
  (.seq (.reg (.text []))
  (.seq (.seq (.reg (.text []))
  (.block (.loop [(5, .slice), (6, .int .i64)] [0, 1] (.seq (.seq (.reg (.text []))
  (.cond 1 2 .leaf .leaf))
  (.block (.seq (.reg (.text [.p .n, .p .n, .p .n, .p (.sh [.int .i64, .int .i64])]))
  (.cut [(7, .int .i64), (8, .int .i64)] [0, 1, 5, 6] (.seq (.reg (.text []))
  (.cond 31 32 (.reg (.loads (.take 0 (.p .n) (.take 1 (.p .n) (.take 2 (.p .n) (.take 3 (.p .n) (.take 4 (.p .n) (.take 5 (.p .n) .done)))))))) .leaf))
  (.seq (.block (.cut [(35, .bool)] [0, 1, 5, 6, 7, 8] (.reg (.text [.p .n, .p .n, .p .n, .gs .n 29 30]))
  (.cond 3 4 (.reg (.text [.p .n, .p .n, .p .n, .p .n, .p (.sh [.slice])])) (.cut [(47, .bool)] [0, 1, 5, 6, 7, 8] (.reg (.text [.p .n, .p .n, .p .n, .gs .n 21 22, .p .n, .p .n, .p .n, .on 22 (.gs .n 23 24) (.p .n), .p .n, .p .n, .p .n, .on 24 (.gs .n 25 26) (.p .n), .p .n, .p .n, .p .n, .on 26 (.gs .n 27 28) (.p .n)]))
  (.cond 5 6 (.reg (.text [.p .n, .p .n, .p .n, .p .n, .p .n, .p (.sh [.slice])])) (.cut [(72, .bool)] [0, 1, 5, 6, 7, 8] (.reg (.text [.p .n, .p .n, .p .n, .gs .n 13 14, .p .n, .on 14 (.gs .n 15 16) (.p .n), .p .n, .p .n, .on 15 (.gs .n 17 18) (.p .n), .p .n, .p .n, .p .n, .on 18 (.gs .n 19 20) (.p .n)]))
  (.cond 7 8 (.seq (.reg (.text [.p .n, .p (.sh [.slice])]))
  (.reg (.text [.p .n, .p .n, .p .n, .p (.sh [.str]), .p (.sh [.slice])]))) (.cut [(97, .bool)] [0, 1, 5, 6, 7, 8] (.reg (.text [.p .n, .p .n, .p .n, .gs .n 11 12]))
  (.cond 9 10 (.seq (.reg (.text [.p .n, .p (.sh [.slice])]))
  (.reg (.text [.p .n, .p .n, .p .n, .p .n, .p .n, .p .n, .p (.sh [.slice])]))) (.reg (.text [.p .n, .p .n, .p .n, .p .n, .p .n, .p .n, .p .n, .p (.sh [.slice])])))))))))))
  (.reg (.text []))))))))))
  (.seq (.reg (.text [.p .n, .p .n, .p (.sh [.slice]), .p (.sh [.str])]))
  .leaf)))
theorem vcE24 (s : List UInt8) (escape : Bool) (w : World) (R : Value → World → Prop) : vcFn prog f24 an24 [.string (mkS s), .bool escape] w R = VC24 s escape w R := by kernel_rfl
theorem c24 (s : List UInt8) (escape : Bool) (w : World) (R : Value → World → Prop) (hvc : VC24 s escape w R) : Calls prog 24 ⟨[.string (mkS s), .bool escape]⟩ w fun e w' => ∃ v, e = .returned v ∧ R v w' :=
  vc_calls mixed (fn := f24) (ann := an24) (by kernel_rfl) ((vcE24 s escape w R).symm ▸ hvc)

/- F33: spec.extID -/
def VC33 (b : Option Addr) (b_n b_c : Nat) (w : World) (R : Value → World → Prop) : Prop :=
  ∃ Ix : Nat → List UInt8 → Int → World → Prop, (∃ m_2, Ix m_2 [34] 0 w) ∧
  ∀ m, ∀ s : List UInt8, ∀ x8 : Int, ∀ w1, Ix m s x8 w1 →
  (decide (x8 < (b_n : Int)) = true →
    ((0 : Int) ≤ x8 ∧ x8 < (b_n : Int)) ∧ ∃ ba : Addr, b = some ba ∧ 
      ∃ x11 : Int, w1.cell? (ba.add (x8.toNat * 1)) = some (.int .u8 x11) ∧ 
      Calls prog 32 ⟨[.int .u8 x11]⟩ w1 fun e w2 => ∃ x14 : List UInt8, e = .returned (.string (mkS x14)) ∧ 
      s.length + x14.length ≤ 9223372036854775807 ∧ 
      ∃ x16 : Int, IntKind.i64.wrap (x8 + 1) = x16 ∧ 
      ∃ m_1, m_1 < m ∧ Ix m_1 (s ++ x14) x16 w2) ∧ (decide (x8 < (b_n : Int)) = false →
    s.length + [34].length ≤ 9223372036854775807 ∧ 
      R (.string (mkS (s ++ [34]))) w1)
def an33 : Ann :=
  .seq (.reg (.text []))
  (.seq (.reg (.text []))
  (.seq (.seq (.reg (.text []))
  (.block (.loop [(3, .str), (8, .int .i64)] [6, 7] (.seq (.reg (.text []))
  (.seq (.cond 1 2 .leaf .leaf)
  (.seq (.block (.seq (.reg (.text [.p (.sh []), .p (.sh [.int .u8])]))
  (.reg (.text [.p .n, .p .n, .p (.sh [.str])]))))
  (.reg (.text []))))))))
  (.seq (.reg (.text []))
  .leaf)))
theorem vcE33 (b : Option Addr) (b_n b_c : Nat) (w : World) (R : Value → World → Prop) : vcFn prog f33 an33 [.slice b b_n b_c] w R = VC33 b b_n b_c w R := by kernel_rfl
theorem c33 (b : Option Addr) (b_n b_c : Nat) (w : World) (R : Value → World → Prop) (hvc : VC33 b b_n b_c w R) : Calls prog 33 ⟨[.slice b b_n b_c]⟩ w fun e w' => ∃ v, e = .returned v ∧ R v w' :=
  vc_calls mixed (fn := f33) (ann := an33) (by kernel_rfl) ((vcE33 b b_n b_c w R).symm ▸ hvc)

/- F35: spec.extSorted -/
def VC35 (s : List UInt8) (w : World) (R : Value → World → Prop) : Prop :=
  ∃ (x7 : Option Addr) (x7_n x7_c : Nat), ∃ w1, (convert 9 23 (.string (mkS s))).run prog w = .ok (.slice x7 x7_n x7_c) w1 ∧ 
  ∃ Ix : Nat → Int → World → Prop, (∃ m_2, Ix m_2 0 w1) ∧
  ∀ m, ∀ x10 : Int, ∀ w2, Ix m x10 w2 →
  (decide (x10 < (x7_n : Int)) = true →
    ∃ Ix_1 : Nat → Int → World → Prop, (∃ m_5, Ix_1 m_5 x10 w2) ∧
      ∀ m_3, ∀ k : Int, ∀ w3, Ix_1 m_3 k w3 →
      (decide (0 < k) = true →
        ((0 : Int) ≤ k ∧ k < (x7_n : Int)) ∧ ∃ x7a : Addr, x7 = some x7a ∧ 
          ∃ x20 : Int, w3.drew.cell? (x7a.add (k.toNat * 1)) = some (.int .u8 x20) ∧ 
          ∃ x23 : Int, IntKind.i64.wrap (k - 1) = x23 ∧ 
          ((0 : Int) ≤ x23 ∧ x23 < (x7_n : Int)) ∧ ∃ x7a_1 : Addr, x7 = some x7a_1 ∧ 
          ∃ x25 : Int, w3.drew.cell? (x7a_1.add (x23.toNat * 1)) = some (.int .u8 x25) ∧ 
          (decide (x20 < x25) = true →
          ∃ f : List (Addr × Value), Kept w3.drew f ∧
            ∃ x34 : Int, IntKind.i64.wrap (k - 1) = x34 ∧ 
            ∃ x37 : Int, IntKind.i64.wrap (k - 1) = x37 ∧ 
            ((0 : Int) ≤ x37 ∧ x37 < (x7_n : Int)) ∧ ∃ x7a_2 : Addr, x7 = some x7a_2 ∧ 
            ∃ x39 : Int, ((x7a_2.add (x37.toNat * 1)), .int .u8 x39) ∈ f ∧ 
            ((0 : Int) ≤ k ∧ k < (x7_n : Int)) ∧ ∃ x7a_3 : Addr, x7 = some x7a_3 ∧ 
            ∃ x43 : Int, ((x7a_3.add (k.toNat * 1)), .int .u8 x43) ∈ f ∧ 
            ((0 : Int) ≤ k ∧ k < (x7_n : Int)) ∧ ∃ x7a_4 : Addr, x7 = some x7a_4 ∧ 
            CanStore w3.drew.drew (x7a_4.add (k.toNat * 1)) (.int .u8 x39) ∧ ∀ w4, w4 = w3.drew.drew.setCell (x7a_4.add (k.toNat * 1)) (.int .u8 x39) → 
            ((0 : Int) ≤ x34 ∧ x34 < (x7_n : Int)) ∧ ∃ x7a_5 : Addr, x7 = some x7a_5 ∧ 
            CanStore w4 (x7a_5.add (x34.toNat * 1)) (.int .u8 x43) ∧ ∀ w5, w5 = w4.setCell (x7a_5.add (x34.toNat * 1)) (.int .u8 x43) → 
            ∃ x29 : Int, IntKind.i64.wrap (k - 1) = x29 ∧ 
            ∃ m_4, m_4 < m_3 ∧ Ix_1 m_4 x29 w5) ∧ (decide (x20 < x25) = false →
          ∃ x46 : Int, IntKind.i64.wrap (x10 + 1) = x46 ∧ 
            ∃ m_1, m_1 < m ∧ Ix m_1 x46 w3.drew)) ∧ (decide (0 < k) = false →
        ∃ x46_1 : Int, IntKind.i64.wrap (x10 + 1) = x46_1 ∧ 
          ∃ m_1, m_1 < m ∧ Ix m_1 x46_1 w3.drew)) ∧ (decide (x10 < (x7_n : Int)) = false →
    ∃ x48 : List UInt8, ∃ w6, (convert 23 9 (.slice x7 x7_n x7_c)).run prog w2 = .ok (.string (mkS x48)) w6 ∧ 
      R (.string (mkS x48)) w6)
def an35 : Ann :=
  .seq (.reg (.text []))
  (.seq (.reg (.text [.p .n, .p (.sh [.slice])]))
  (.seq (.seq (.reg (.text []))
  (.block (.loop [(10, .int .i64)] [3, 9] (.seq (.reg (.text []))
  (.seq (.cond 1 2 .leaf .leaf)
  (.seq (.block (.seq (.reg (.text []))
  (.seq (.reg (.text []))
  (.block (.loop [(5, .int .i64)] [3, 9, 10] (.seq (.seq (.reg (.loads (.take 0 (.p .n) (.take 1 (.p .n) (.take 2 (.p .n) (.take 3 (.gs .n 3 4) (.take 4 (.p .n) (.take 5 (.on 4 (.p .n) (.p (.sh []))) (.take 6 (.on 4 (.p .n) (.p (.sh [.int .u8]))) (.take 7 (.p .n) (.take 8 (.p .n) (.take 9 (.p .n) (.take 10 (.on 4 (.p .n) (.p (.sh []))) (.take 11 (.on 4 (.p .n) (.p (.sh [.int .u8]))) (.take 12 (.p .n) (.take 13 (.p .n) .done))))))))))))))))
  (.on 4 (.no .leaf) (.cond 5 6 .leaf .leaf)))
  (.seq (.block (.reg (.held [15, 17] (.take 0 (.p .n) (.take 1 (.p .n) (.take 2 (.p .n) (.take 3 (.p .n) (.take 4 (.p .n) (.take 5 (.p .n) (.take 6 (.p .n) (.take 7 (.p .n) (.take 8 (.p (.sh [])) (.take 9 (.p (.sh [.int .u8])) (.take 10 (.p .n) (.take 11 (.p .n) (.take 12 (.p (.sh [])) (.take 13 (.p (.sh [.int .u8])) (.take 14 (.p (.sh [])) (.run 15 (.p .n) (.take 16 (.p (.sh [])) (.run 17 (.p .n) .done .done)) .done)))))))))))))))))))
  (.reg (.text [])))))))))
  (.reg (.text []))))))))
  (.seq (.reg (.text [.p .n, .p (.sh [.str])]))
  .leaf)))
theorem vcE35 (s : List UInt8) (w : World) (R : Value → World → Prop) : vcFn prog f35 an35 [.string (mkS s)] w R = VC35 s w R := by kernel_rfl
theorem c35 (s : List UInt8) (w : World) (R : Value → World → Prop) (hvc : VC35 s w R) : Calls prog 35 ⟨[.string (mkS s)]⟩ w fun e w' => ∃ v, e = .returned v ∧ R v w' :=
  vc_calls mixed (fn := f35) (ann := an35) (by kernel_rfl) ((vcE35 s w R).symm ▸ hvc)

/- F31: spec.ExtBase64 -/
def VC31 (b : Option Addr) (b_n b_c : Nat) (w : World) (R : Value → World → Prop) : Prop :=
  ∃ Ix : Nat → Option Addr → Nat → Nat → Int → World → Prop, (∃ m_2, Ix m_2 none 0 0 0 w) ∧
  ∀ m, ∀ (out : Option Addr) (out_n out_c : Nat), ∀ i : Int, ∀ w1, Ix m out out_n out_c i w1 →
  (decide (i < (b_n : Int)) = true →
    ∃ Ix_1 : Nat → Int → Int → Int → World → Prop, (∃ m_5, Ix_1 m_5 0 0 0 w1) ∧
      ∀ m_3, ∀ nx : Int, ∀ havex : Int, ∀ k : Int, ∀ w2, Ix_1 m_3 nx havex k w2 →
      (decide (k < 3) = true →
        (0 : Int) ≤ 8 ∧ ∃ x20 : Int, IntKind.i64.wrap (nx * 2 ^ 8) = x20 ∧ 
          ∃ x23 : Int, IntKind.i64.wrap (i + k) = x23 ∧ 
          (decide (x23 < (b_n : Int)) = true →
          ∃ x31 : Int, IntKind.i64.wrap (i + k) = x31 ∧ 
            ((0 : Int) ≤ x31 ∧ x31 < (b_n : Int)) ∧ ∃ ba : Addr, b = some ba ∧ 
            ∃ x33 : Int, w2.cell? (ba.add (x31.toNat * 1)) = some (.int .u8 x33) ∧ 
            ∃ x34 : Int, IntKind.i64.wrap x33 = x34 ∧ 
            ∃ x35 : Int, bits .or .i64 x20 x34 = x35 ∧ 
            ∃ x37 : Int, IntKind.i64.wrap (havex + 1) = x37 ∧ 
            ∃ x18 : Int, IntKind.i64.wrap (k + 1) = x18 ∧ 
            ∃ m_4, m_4 < m_3 ∧ Ix_1 m_4 x35 x37 x18 w2) ∧ (decide (x23 < (b_n : Int)) = false →
          ∃ x18_1 : Int, IntKind.i64.wrap (k + 1) = x18_1 ∧ 
            ∃ m_4, m_4 < m_3 ∧ Ix_1 m_4 x20 havex x18_1 w2)) ∧ (decide (k < 3) = false →
        ∃ Ix_2 : Nat → Option Addr → Nat → Nat → Int → World → Prop, (∃ m_8, Ix_2 m_8 out out_n out_c 0 w2) ∧
          ∀ m_6, ∀ (out_1 : Option Addr) (out_1_n out_1_c : Nat), ∀ k_1 : Int, ∀ w3, Ix_2 m_6 out_1 out_1_n out_1_c k_1 w3 →
          (decide (k_1 < 4) = true →
            (decide (havex < k_1) = true →
              ∀ w4, w4 = w3.alloc (.cells ⟨[.int .u8 61]⟩ 5) → 
                ∃ (x47 : Option Addr) (x47_n x47_c : Nat), ∃ w5, BuiltinOk prog .append #[23, 23] 23 [false, false] [.slice out_1 out_1_n out_1_c, .slice (some (⟨w3.heap.size, 0, none⟩)) 1 1] w4 (.slice x47 x47_n x47_c) w5 ∧ 
                ∃ x41 : Int, IntKind.i64.wrap (k_1 + 1) = x41 ∧ 
                ∃ m_7, m_7 < m_6 ∧ Ix_2 m_7 x47 x47_n x47_c x41 w5) ∧ (decide (havex < k_1) = false →
              ∃ x51 : Int, IntKind.i64.wrap (6 * k_1) = x51 ∧ 
                ∃ x52 : Int, IntKind.i64.wrap (18 - x51) = x52 ∧ 
                (0 : Int) ≤ x52 ∧ ∃ x53 : Int, Int.fdiv nx (2 ^ (min x52.toNat 64)) = x53 ∧ 
                ∃ x54 : Int, bits .and .i64 x53 63 = x54 ∧ 
                ∃ x55 : UInt8, ((0 : Int) ≤ x54 ∧ [65, 66, 67, 68, 69, 70, 71, 72, 73, 74, 75, 76, 77, 78, 79, 80, 81, 82, 83, 84, 85, 86, 87, 88, 89, 90, 97, 98, 99, 100, 101, 102, 103, 104, 105, 106, 107, 108, 109, 110, 111, 112, 113, 114, 115, 116, 117, 118, 119, 120, 121, 122, 48, 49, 50, 51, 52, 53, 54, 55, 56, 57, 43, 47][x54.toNat]? = some x55) ∧ 
                ∀ w6, w6 = w3.alloc (.cells ⟨[.int .u8 (x55.toNat : Int)]⟩ 5) → 
                ∃ (x57 : Option Addr) (x57_n x57_c : Nat), ∃ w7, BuiltinOk prog .append #[23, 23] 23 [false, false] [.slice out_1 out_1_n out_1_c, .slice (some (⟨w3.heap.size, 0, none⟩)) 1 1] w6 (.slice x57 x57_n x57_c) w7 ∧ 
                ∃ x41_1 : Int, IntKind.i64.wrap (k_1 + 1) = x41_1 ∧ 
                ∃ m_7, m_7 < m_6 ∧ Ix_2 m_7 x57 x57_n x57_c x41_1 w7)) ∧ (decide (k_1 < 4) = false →
            ∃ x14 : Int, IntKind.i64.wrap (i + 3) = x14 ∧ 
              ∃ m_1, m_1 < m ∧ Ix m_1 out_1 out_1_n out_1_c x14 w3))) ∧ (decide (i < (b_n : Int)) = false →
    ∃ x59 : List UInt8, ∃ w8, (convert 23 9 (.slice out out_n out_c)).run prog w1 = .ok (.string (mkS x59)) w8 ∧ 
      R (.string (mkS x59)) w8)
def an31 : Ann :=
  .seq (.reg (.text []))
  (.seq (.reg (.text []))
  (.seq (.seq (.reg (.text []))
  (.block (.loop [(3, .slice), (4, .int .i64)] [0] (.seq (.seq (.reg (.text []))
  (.cond 1 2 .leaf .leaf))
  (.seq (.block (.seq (.reg (.text []))
  (.seq (.seq (.reg (.text []))
  (.block (.loop [(5, .int .i64), (6, .int .i64), (7, .int .i64)] [0, 3, 4] (.seq (.seq (.reg (.text []))
  (.cond 3 4 .leaf .leaf))
  (.seq (.block (.seq (.reg (.text []))
  (.seq (.reg (.text []))
  (.cond 5 6 (.seq (.reg (.text [.p .n, .p .n, .p .n, .p .n, .p .n, .p (.sh []), .p (.sh [.int .u8])]))
  (.reg (.text []))) .leaf))))
  (.reg (.text [])))))))
  (.seq (.reg (.text []))
  (.block (.loop [(3, .slice), (8, .int .i64)] [0, 4, 5, 6] (.seq (.seq (.reg (.text []))
  (.cond 7 8 .leaf .leaf))
  (.seq (.block (.seq (.reg (.text []))
  (.cond 9 10 (.reg (.text [.p .n, .p .n, .p (.sh [.slice])])) (.reg (.text [.p .n, .p .n, .p .n, .p .n, .p .n, .p .n, .p .n, .p .n, .p .n, .p (.sh [.slice])])))))
  (.reg (.text []))))))))))
  (.reg (.text [])))))))
  (.seq (.reg (.text [.p .n, .p (.sh [.str])]))
  .leaf)))
theorem vcE31 (b : Option Addr) (b_n b_c : Nat) (w : World) (R : Value → World → Prop) : vcFn prog f31 an31 [.slice b b_n b_c] w R = VC31 b b_n b_c w R := by kernel_rfl
theorem c31 (b : Option Addr) (b_n b_c : Nat) (w : World) (R : Value → World → Prop) (hvc : VC31 b b_n b_c w R) : Calls prog 31 ⟨[.slice b b_n b_c]⟩ w fun e w' => ∃ v, e = .returned v ∧ R v w' :=
  vc_calls mixed (fn := f31) (ann := an31) (by kernel_rfl) ((vcE31 b b_n b_c w R).symm ▸ hvc)

/- F30: spec.extKids -/
def VC30 (xKind : Int) (xText : List UInt8) (xMore : List UInt8) (xN : Int) (xBits : Int) (xHigh : Int) (xB : Option Addr) (xB_n xB_c : Nat) (xKids : Option Addr) (xKids_n xKids_c : Nat) (canonical : Bool) (escape : Bool) (w : World) (R : Value → World → Prop) : Prop :=
  ∀ w1, w1 = w.alloc (.cells ⟨[.int .i64 xKind, .string (mkS xText), .string (mkS xMore), .int .i64 xN, .int .u64 xBits, .int .u64 xHigh, .slice xB xB_n xB_c, .slice xKids xKids_n xKids_c]⟩ 26) → 
  ∀ Kx : List UInt8 → List UInt8 → World → Prop, (∀ openx : List UInt8, ∀ endx : List UInt8, ∀ w2,
  (∃ (x20 : Option Addr) (x20_n x20_c : Nat), w2.cell? ⟨w.heap.size, 7, none⟩ = some (.slice x20 x20_n x20_c) ∧ 
    ∃ Ix : Nat → List UInt8 → Int → World → Prop, (∃ m_2, Ix m_2 openx 0 w2) ∧
    ∀ m, ∀ s : List UInt8, ∀ x22 : Int, ∀ w3, Ix m s x22 w3 →
    (decide (x22 < (x20_n : Int)) = true →
      ((0 : Int) ≤ x22 ∧ x22 < (x20_n : Int)) ∧ ∃ x20a : Addr, x20 = some x20a ∧ 
        ∃ x26 : List UInt8, ∃ x26_1 : Int, ∃ x26_2 : List UInt8, ∃ x26_3 : List UInt8, ∃ x26_4 : Int, ∃ x26_5 : Int, ∃ x26_6 : Int, ∃ (x26_7 : Option Addr) (x26_7_n x26_7_c : Nat), ∃ (x26_8 : Option Addr) (x26_8_n x26_8_c : Nat), LoadsRow prog 46 w3 (x20a.add (x22.toNat * 9)) [.string (mkS x26), .int .i64 x26_1, .string (mkS x26_2), .string (mkS x26_3), .int .i64 x26_4, .int .u64 x26_5, .int .u64 x26_6, .slice x26_7 x26_7_n x26_7_c, .slice x26_8 x26_8_n x26_8_c] ∧ 
        ∀ w4, w4 = w3.alloc (.cells ⟨[.string (mkS []), .int .i64 0, .string (mkS []), .string (mkS []), .int .i64 0, .int .u64 0, .int .u64 0, .slice none 0 0, .slice none 0 0]⟩ 46) → 
        ∃ w5, (Instr.storeAt 46 (.pointer (some ⟨w3.heap.size, 0, none⟩)) (.agg ⟨[.string (mkS x26), .int .i64 x26_1, .string (mkS x26_2), .string (mkS x26_3), .int .i64 x26_4, .int .u64 x26_5, .int .u64 x26_6, .slice x26_7 x26_7_n x26_7_c, .slice x26_8 x26_8_n x26_8_c]⟩)).run prog w4 = .ok () w5 ∧ 
        ∃ x29 : Int, ∃ x29_1 : List UInt8, ∃ x29_2 : List UInt8, ∃ x29_3 : Int, ∃ x29_4 : Int, ∃ x29_5 : Int, ∃ (x29_6 : Option Addr) (x29_6_n x29_6_c : Nat), ∃ (x29_7 : Option Addr) (x29_7_n x29_7_c : Nat), LoadsRow prog 26 w5 ⟨w3.heap.size, 1, none⟩ [.int .i64 x29, .string (mkS x29_1), .string (mkS x29_2), .int .i64 x29_3, .int .u64 x29_4, .int .u64 x29_5, .slice x29_6 x29_6_n x29_6_c, .slice x29_7 x29_7_n x29_7_c] ∧ 
        Calls prog 9 ⟨[.agg ⟨[.int .i64 x29, .string (mkS x29_1), .string (mkS x29_2), .int .i64 x29_3, .int .u64 x29_4, .int .u64 x29_5, .slice x29_6 x29_6_n x29_6_c, .slice x29_7 x29_7_n x29_7_c]⟩, .bool canonical, .bool escape]⟩ w5 fun e w6 => ∃ x32 : List UInt8, ∃ x32_1 : Bool, e = .returned (.tuple ⟨[.string (mkS x32), .bool x32_1]⟩) ∧ 
        ((!x32_1) = true →
        R (.tuple ⟨[.string (mkS []), .bool false]⟩) w6) ∧ ((!x32_1) = false →
        ∀ Kx_1 : List UInt8 → World → Prop, (∀ s_1 : List UInt8, ∀ w7,
          (∃ x42 : Int, w7.cell? ⟨w.heap.size, 0, none⟩ = some (.int .i64 x42) ∧ 
            (decide (x42 = 3) = true →
            ∃ x46 : List UInt8, w7.cell? ⟨w3.heap.size, 0, none⟩ = some (.string (mkS x46)) ∧ 
              Calls prog 24 ⟨[.string (mkS x46), .bool escape]⟩ w7 fun e w8 => ∃ x48 : List UInt8, e = .returned (.string (mkS x48)) ∧ 
              x48.length + [58].length ≤ 9223372036854775807 ∧ 
              s_1.length + (x48 ++ [58]).length ≤ 9223372036854775807 ∧ 
              (s_1 ++ (x48 ++ [58])).length + x32.length ≤ 9223372036854775807 ∧ 
              ∃ x54 : Int, IntKind.i64.wrap (x22 + 1) = x54 ∧ 
              ∃ m_1, m_1 < m ∧ Ix m_1 ((s_1 ++ (x48 ++ [58])) ++ x32) x54 w8) ∧ (decide (x42 = 3) = false →
            s_1.length + x32.length ≤ 9223372036854775807 ∧ 
              ∃ x54_1 : Int, IntKind.i64.wrap (x22 + 1) = x54_1 ∧ 
              ∃ m_1, m_1 < m ∧ Ix m_1 (s_1 ++ x32) x54_1 w7)) → Kx_1 s_1 w7) →
          (decide (0 < x22) = true →
          s.length + [44].length ≤ 9223372036854775807 ∧ 
            Kx_1 (s ++ [44]) w6) ∧ (decide (0 < x22) = false →
          Kx_1 s w6))) ∧ (decide (x22 < (x20_n : Int)) = false →
      s.length + endx.length ≤ 9223372036854775807 ∧ 
        R (.tuple ⟨[.string (mkS (s ++ endx)), .bool true]⟩) w3)) → Kx openx endx w2) →
  ∃ x16 : Int, w1.cell? ⟨w.heap.size, 0, none⟩ = some (.int .i64 x16) ∧ 
  (decide (x16 = 4) = true →
  Kx [91] [93] w1) ∧ (decide (x16 = 4) = false →
  Kx [123] [125] w1)
def an30 : Ann :=
  .seq (.reg (.text []))
  (.seq (.reg (.text []))
  (.cut [(8, .str), (9, .str)] [1, 2, 3] (.seq (.reg (.text [.p .n, .p (.sh [.int .i64])]))
  (.cond 9 10 (.reg (.text [])) .leaf))
  (.seq (.reg (.text []))
  (.seq (.seq (.reg (.text [.p .n, .p (.sh [.slice])]))
  (.block (.loop [(10, .str), (22, .int .i64)] [1, 2, 3, 9, 20, 21] (.seq (.reg (.text []))
  (.seq (.cond 1 2 .leaf .leaf)
  (.seq (.block (.seq (.reg (.text [.p .n, .p (.sh []), .p (.sh [.str, .int .i64, .str, .str, .int .i64, .int .u64, .int .u64, .slice, .slice])]))
  (.seq (.reg (.text [.p .n, .p (.sh [.int .i64, .str, .str, .int .i64, .int .u64, .int .u64, .slice, .slice]), .p .n, .p .n, .p (.sh [.str, .bool])]))
  (.seq (.seq (.reg (.text []))
  (.cond 3 4 (.seq (.reg (.text []))
  .leaf) .leaf))
  (.cut [(10, .str)] [1, 2, 3, 9, 12, 13, 20, 21, 22] (.seq (.reg (.text []))
  (.cond 7 8 (.reg (.text [])) .leaf))
  (.seq (.seq (.reg (.text [.p .n, .p (.sh [.int .i64])]))
  (.cond 5 6 (.reg (.text [.p .n, .p .n, .p (.sh [.str]), .p .n, .p (.sh [.str])])) .leaf))
  (.reg (.text []))))))))
  (.reg (.text []))))))))
  (.seq (.reg (.text []))
  .leaf)))))
theorem vcE30 (xKind : Int) (xText : List UInt8) (xMore : List UInt8) (xN : Int) (xBits : Int) (xHigh : Int) (xB : Option Addr) (xB_n xB_c : Nat) (xKids : Option Addr) (xKids_n xKids_c : Nat) (canonical : Bool) (escape : Bool) (w : World) (R : Value → World → Prop) : vcFn prog f30 an30 [.agg ⟨[.int .i64 xKind, .string (mkS xText), .string (mkS xMore), .int .i64 xN, .int .u64 xBits, .int .u64 xHigh, .slice xB xB_n xB_c, .slice xKids xKids_n xKids_c]⟩, .bool canonical, .bool escape] w R = VC30 xKind xText xMore xN xBits xHigh xB xB_n xB_c xKids xKids_n xKids_c canonical escape w R := by kernel_rfl
theorem c30 (xKind : Int) (xText : List UInt8) (xMore : List UInt8) (xN : Int) (xBits : Int) (xHigh : Int) (xB : Option Addr) (xB_n xB_c : Nat) (xKids : Option Addr) (xKids_n xKids_c : Nat) (canonical : Bool) (escape : Bool) (w : World) (R : Value → World → Prop) (hvc : VC30 xKind xText xMore xN xBits xHigh xB xB_n xB_c xKids xKids_n xKids_c canonical escape w R) : Calls prog 30 ⟨[.agg ⟨[.int .i64 xKind, .string (mkS xText), .string (mkS xMore), .int .i64 xN, .int .u64 xBits, .int .u64 xHigh, .slice xB xB_n xB_c, .slice xKids xKids_n xKids_c]⟩, .bool canonical, .bool escape]⟩ w fun e w' => ∃ v, e = .returned v ∧ R v w' :=
  vc_calls mixed (fn := f30) (ann := an30) (by kernel_rfl) ((vcE30 xKind xText xMore xN xBits xHigh xB xB_n xB_c xKids xKids_n xKids_c canonical escape w R).symm ▸ hvc)

end Go.Proofs.Tryz
/- The reference: UTF-8, two hexadecimal digits, a string of JSON. -/
set_option linter.unusedVariables false
namespace Go.Proofs.Tryz
open Go.Vc Go.RowKit

theorem tailF_le (n c least : Nat) (s : List UInt8) : (tailF n c least s).1 ≤ s.length := by
  unfold tailF
  split
  · exact Nat.zero_le _
  · split
    · split
      · simp only; omega
      · exact Nat.zero_le _
    · exact Nat.zero_le _
theorem runeF_le (s : List UInt8) : (runeF s).1 ≤ s.length := by
  cases s with
  | nil => exact Nat.le_refl _
  | cons a r =>
    rw [runeF]
    split
    · simp
    · exact tailF_le _ _ _ _

/-- The first character: how many bytes, which, and is it one. -/
def stepF (s : List UInt8) : Nat × Nat × Bool := if (runeF s).1 = 0 then (1, (s.headD 0).toNat, false) else ((runeF s).1, (runeF s).2, true)
theorem stepF_pos (s : List UInt8) : 1 ≤ (stepF s).1 := by
  unfold stepF; split <;> simp only <;> omega
theorem stepF_le (s : List UInt8) (h : s ≠ []) : (stepF s).1 ≤ s.length := by
  have := runeF_le s
  have : 0 < s.length := List.length_pos_iff.2 h
  unfold stepF; split <;> simp only <;> omega
def chunksG : Nat → List UInt8 → List (List UInt8 × Nat × Bool)
  | 0, _ => []
  | f + 1, s => if s = [] then [] else (s.take (stepF s).1, (stepF s).2) :: chunksG f (s.drop (stepF s).1)
def chunks (s : List UInt8) : List (List UInt8 × Nat × Bool) := chunksG s.length s
theorem chunksG_fuel : ∀ (f g : Nat) (s : List UInt8), s.length ≤ f → s.length ≤ g → chunksG f s = chunksG g s
  | 0, g, s, hf, hg => by
    have : s = [] := List.eq_nil_of_length_eq_zero (by omega)
    subst this
    cases g <;> simp [chunksG]
  | f + 1, 0, s, hf, hg => by
    have : s = [] := List.eq_nil_of_length_eq_zero (by omega)
    subst this
    simp [chunksG]
  | f + 1, g + 1, s, hf, hg => by
    simp only [chunksG]
    split
    · rfl
    · have := stepF_pos s
      rw [chunksG_fuel f g _ (by rw [List.length_drop]; omega) (by rw [List.length_drop]; omega)]
theorem chunks_nil : chunks [] = [] := rfl
theorem chunks_cons (s : List UInt8) (h : s ≠ []) : chunks s = (s.take (stepF s).1, (stepF s).2) :: chunks (s.drop (stepF s).1) := by
  have hl : 0 < s.length := List.length_pos_iff.2 h
  have hp := stepF_pos s
  unfold chunks
  obtain ⟨n, hn⟩ : ∃ n, s.length = n + 1 := ⟨s.length - 1, by omega⟩
  rw [hn]
  simp only [chunksG, if_neg h]
  rw [chunksG_fuel n (s.drop (stepF s).1).length _ (by rw [List.length_drop]; omega) (Nat.le_refl _)]

def utf8F (s : List UInt8) : Bool := (chunks s).all fun x => x.2.2
theorem utf8F_nil : utf8F [] = true := rfl
theorem utf8F_cons (s : List UInt8) (h : s ≠ []) : utf8F s = (!decide ((runeF s).1 = 0) && utf8F (s.drop (stepF s).1)) := by
  unfold utf8F
  rw [chunks_cons s h, List.all_cons]
  congr 1
  unfold stepF; split <;> simp [*]

theorem ret110 (s : List UInt8) (w : World) (hs : s.length ≤ 1099511627776) : Ret 110 [.string (mkS s)] w (.bool (utf8F s)) := by
  refine Ret.of (c110 s w _ ?_)
  unfold VC110
  refine ⟨fun m i w1 => Keeps w w1 ∧ ∃ k : Nat, i = k ∧ k ≤ s.length ∧ m = s.length - k ∧ utf8F s = utf8F (s.drop k), ⟨s.length, Keeps.refl _, 0, rfl, by omega, rfl, rfl⟩, ?_⟩
  rintro m i w1 ⟨hk, k, rfl, hkl, rfl, hu⟩
  refine ⟨fun h => ?_, fun h => ?_⟩
  · simp only [decide_eq_true_eq] at h
    have hlt : k < s.length := by omega
    have hne : s.drop k ≠ [] := by
      intro e; have := congrArg List.length e; simp at this; omega
    refine ⟨⟨by omega, by omega⟩, ?_⟩
    have ek : ((k : Int)).toNat = k := rfl
    rw [ek]
    refine (ret48 (s.drop k) w1).go fun w2 hk2 => ⟨_, _, rfl, fun h0 => ?_, fun h0 => ?_⟩
    · simp only [decide_eq_true_eq] at h0
      refine ⟨?_, hk.trans hk2⟩
      rw [hu, utf8F_cons _ hne]
      have : (runeF (s.drop k)).1 = 0 := by omega
      simp [this]
    · simp only [decide_eq_false_iff_not] at h0
      have hle := runeF_le (s.drop k)
      rw [List.length_drop] at hle
      have hne0 : ¬ (runeF (s.drop k)).1 = 0 := by omega
      have hst : (stepF (s.drop k)).1 = (runeF (s.drop k)).1 := by unfold stepF; rw [if_neg hne0]
      refine ⟨_, i64w (by omega) (by omega), s.length - (k + (runeF (s.drop k)).1), by omega, hk.trans hk2, k + (runeF (s.drop k)).1, by omega, by omega, rfl, ?_⟩
      rw [hu, utf8F_cons _ hne, hst, List.drop_drop]
      simp [hne0]
  · simp only [decide_eq_false_iff_not] at h
    refine ⟨?_, hk⟩
    have : s.drop k = [] := List.drop_eq_nil_of_le (by omega)
    rw [hu, this]; rfl

def textF (s : List UInt8) : Bool := decide (s.length ≤ 300) && utf8F s
theorem ret56 (s : List UInt8) (w : World) : Ret 56 [.string (mkS s)] w (.bool (textF s)) := by
  refine Ret.of (c56 s w _ ?_)
  unfold VC56 textF
  refine ⟨fun h => ?_, fun h => ?_⟩
  · simp only [decide_eq_true_eq] at h
    refine (ret110 s w (by omega)).go fun w1 hk => ⟨_, rfl, ?_, hk⟩
    have : s.length ≤ 300 := by omega
    simp [this]
  · simp only [decide_eq_false_iff_not] at h
    refine ⟨?_, Keeps.refl _⟩
    have : ¬ s.length ≤ 300 := by omega
    simp [this]

def hexD (n : Nat) : UInt8 := [48, 49, 50, 51, 52, 53, 54, 55, 56, 57, 97, 98, 99, 100, 101, 102].getD n 0
def hex2 (b : Nat) : List UInt8 := [hexD (b / 16), hexD (b % 16)]
theorem hexD_get (n : Nat) (h : n < 16) : ([48, 49, 50, 51, 52, 53, 54, 55, 56, 57, 97, 98, 99, 100, 101, 102] : List UInt8)[n]? = some (hexD n) := by
  unfold hexD
  rw [List.getD_eq_getElem?_getD, List.getElem?_eq_getElem (by simpa using h)]; rfl

theorem ret32 (b : Nat) (hb : b < 256) (w : World) : Ret 32 [.int .u8 (b : Int)] w (.string (mkS (hex2 b))) := by
  refine Ret.of (c32 b w _ ?_)
  unfold VC32
  refine ⟨[], trivial, by decide, _, rfl, hexD (b / 16), ?_, _, rfl, hexD (b % 16), ?_, ?_⟩
  · have : Int.fdiv (b : Int) (2 ^ 4) = ((b / 16 : Nat) : Int) := fdiv_nat b 4
    rw [this]
    exact ⟨by omega, hexD_get _ (by omega)⟩
  · have := u8_and15 (x := (b : Int)) (by omega) (by omega)
    rw [this]
    have e : (b : Int) % 16 = ((b % 16 : Nat) : Int) := by omega
    rw [e]
    exact ⟨by omega, hexD_get _ (by omega)⟩
  · rintro w1 rfl
    have ho := Own.new w.heap.size w.drew (hex2 b) (Nat.le_refl _) (by simp [hex2])
    refine ⟨hex2 b, _, conv_string (n := 2) ho.reads rfl, rfl, ?_⟩
    exact (Keeps.refl w).drew.alloc _
end Go.Proofs.Tryz
/- The reference: a string of JSON. -/
set_option linter.unusedVariables false
namespace Go.Proofs.Tryz
open Go.Vc Go.RowKit

/-- What stands for a character. -/
def piece (escape : Bool) (bs : List UInt8) (c : Nat) : List UInt8 :=
  if c = 34 ∨ c = 92 then [92, UInt8.ofNat c]
  else if c = 8 ∨ c = 9 ∨ c = 10 ∨ c = 12 ∨ c = 13 then [92, [98, 116, 110, 46, 102, 114].getD (c - 8) 0]
  else if c < 32 ∨ (escape = true ∧ (c = 60 ∨ c = 62 ∨ c = 38)) then [92, 117, 48, 48] ++ hex2 c
  else if c = 8232 ∨ c = 8233 then [92, 117, 50, 48, 50] ++ [UInt8.ofNat (56 + c - 8232)]
  else bs
def escF (escape : Bool) (s : List UInt8) : List UInt8 := (chunks s).flatMap fun x => piece escape x.1 x.2.1
def strF (escape : Bool) (s : List UInt8) : List UInt8 := 34 :: (escF escape s ++ [34])
theorem escF_nil (e : Bool) : escF e [] = [] := rfl
theorem escF_cons (e : Bool) (s : List UInt8) (h : s ≠ []) : escF e s = piece e (s.take (stepF s).1) (stepF s).2.1 ++ escF e (s.drop (stepF s).1) := by
  unfold escF
  rw [chunks_cons s h, List.flatMap_cons]
theorem piece_len (e : Bool) (bs : List UInt8) (c : Nat) (h : 1 ≤ bs.length) : (piece e bs c).length ≤ 6 * bs.length := by
  unfold piece hex2
  split
  · simp; omega
  · split
    · simp; omega
    · split
      · simp; omega
      · split
        · simp; omega
        · omega
theorem escF_len (e : Bool) : ∀ (n : Nat) (s : List UInt8), s.length ≤ n → (escF e s).length ≤ 6 * s.length
  | 0, s, h => by
    have : s = [] := List.eq_nil_of_length_eq_zero (by omega)
    subst this; simp [escF_nil]
  | n + 1, s, h => by
    by_cases hs : s = []
    · subst hs; simp [escF_nil]
    · have h1 := stepF_pos s
      have h2 := stepF_le s hs
      rw [escF_cons e s hs, List.length_append]
      have h3 := escF_len e n (s.drop (stepF s).1) (by rw [List.length_drop]; omega)
      rw [List.length_drop] at h3
      have h4 := piece_len e (s.take (stepF s).1) (stepF s).2.1 (by rw [List.length_take]; omega)
      rw [List.length_take] at h4
      omega
theorem strF_len (e : Bool) (s : List UInt8) : (strF e s).length ≤ 6 * s.length + 2 := by
  have := escF_len e s.length s (Nat.le_refl _)
  simp [strF]; omega

theorem tailF_lt (n c least : Nat) (s : List UInt8) : (tailF n c least s).2 ≤ 1114111 := by
  unfold tailF
  split
  · simp
  · split
    · split
      · rename_i h; unfold okC at h; simp only [Bool.and_eq_true, decide_eq_true_eq] at h; simp only; omega
      · simp
    · simp
theorem stepF_lt (s : List UInt8) : (stepF s).2.1 ≤ 1114111 := by
  have hb : ∀ b : UInt8, b.toNat ≤ 1114111 := fun b => by have := b.toNat_lt; omega
  unfold stepF
  split
  · exact hb _
  · cases s with
    | nil => simp [runeF]
    | cons a r =>
      rw [runeF]
      split
      · exact hb _
      · exact tailF_lt _ _ _ _

theorem u8_toNat_ofNat (n : Nat) (h : n < 256) : ((UInt8.ofNat n).toNat : Int) = (n : Int) := by
  have : (UInt8.ofNat n).toNat = n := by simp [UInt8.toNat_ofNat']; omega
  rw [this]

theorem ret24 (s : List UInt8) (escape : Bool) (w : World) (hs : s.length ≤ 1099511627776) : Ret 24 [.string (mkS s), .bool escape] w (.string (mkS (strF escape s))) := by
  refine Ret.of (c24 s escape w _ ?_)
  unfold VC24
  rintro w1 rfl
  have ho1 := Own.new w.heap.size w [34] (Nat.le_refl _) (by simp)
  have hk1 : Keeps w (w.alloc (.cells ⟨bc [34]⟩ 5)) := (Keeps.refl w).alloc _
  refine ⟨fun m p n c i w2 => Keeps w w2 ∧ ∃ (k : Nat) (acc : List UInt8), i = k ∧ k ≤ s.length ∧ m = s.length - k ∧ Own w.heap.size w2 p n c acc ∧ acc.length ≤ 1 + 6 * k ∧ 34 :: escF escape s = acc ++ escF escape (s.drop k),
    ⟨s.length, hk1, 0, [34], rfl, by omega, rfl, ho1, by simp, by simp⟩, ?_⟩
  rintro m p n c i w2 ⟨hk2, k, acc, rfl, hkl, rfl, ho2, hal, hesc⟩
  have ek : ((k : Int)).toNat = k := rfl
  refine ⟨fun h => ?_, fun h => ?_⟩
  · simp only [decide_eq_true_eq] at h
    have hlt : k < s.length := by omega
    have hne : s.drop k ≠ [] := by
      intro e; have := congrArg List.length e; simp at this; omega
    have hp := stepF_pos (s.drop k)
    have hle := stepF_le (s.drop k) hne
    rw [List.length_drop] at hle
    have hclt := stepF_lt (s.drop k)
    have hcons := escF_cons escape (s.drop k) hne
    rw [List.drop_drop] at hcons
    have hpl := piece_len escape ((s.drop k).take (stepF (s.drop k)).1) (stepF (s.drop k)).2.1 (by rw [List.length_take, List.length_drop]; omega)
    rw [List.length_take, List.length_drop] at hpl
    refine ⟨⟨by omega, by omega⟩, ?_⟩
    rw [ek]
    refine (ret48 (s.drop k) w2).go fun w3 hk3 => ⟨_, _, rfl, ?_⟩
    intro Kx hK
    have key : ∀ (N C : Nat) (w4 : World), Keeps w2 w4 → N = (stepF (s.drop k)).1 → C = (stepF (s.drop k)).2.1 → Kx N C w4 := by
      intro N C w4 hk4 hN hC
      refine hK N C w4 ?_
      have ho4 := ho2.keeps hk4
      have hk4' := hk2.trans hk4
      rw [← hN] at hcons hpl hp hle
      rw [← hC] at hcons hpl hclt
      -- the round's end
      have fin : ∀ (bs : List UInt8) (p' : Option Addr) (n' c' : Nat) (w' : World), bs = piece escape ((s.drop k).take N) C → Own w.heap.size w' p' n' c' (acc ++ bs) → Keeps w w' →
          ∃ x : Int, IntKind.i64.wrap ((k : Int) + (N : Int)) = x ∧ ∃ m_1, m_1 < s.length - k ∧ (Keeps w w' ∧ ∃ (k' : Nat) (acc' : List UInt8), x = k' ∧ k' ≤ s.length ∧ m_1 = s.length - k' ∧ Own w.heap.size w' p' n' c' acc' ∧ acc'.length ≤ 1 + 6 * k' ∧ 34 :: escF escape s = acc' ++ escF escape (s.drop k')) := by
        intro bs p' n' c' w' hbs ho hkw
        refine ⟨_, i64w (by omega) (by omega), s.length - (k + N), by omega, hkw, k + N, acc ++ bs, by omega, by omega, rfl, ho, ?_, ?_⟩
        · rw [List.length_append, hbs]; omega
        · rw [hesc, hcons, List.append_assoc, hbs]
      intro K1 hK1
      have k1 : ∀ b w5, w5 = w4 → (b = true ↔ (C = 34 ∨ C = 92)) → K1 b w5 := by
        rintro b w5 rfl hb
        refine hK1 b w5 ⟨fun h1 => ?_, fun h1 => ?_⟩
        · have hc := hb.1 h1
          refine ⟨_, u8w (by omega) (by omega), fun w6 hw6 => ?_⟩
          obtain ⟨p', n', c', w7, hr, ho, hk, _⟩ := append_lit (bs := [92, UInt8.ofNat C]) ho4 (Nat.le_refl _) hk4'.size hk4' hw6 (by rw [← u8_toNat_ofNat C (by omega)]; rfl) rfl (by simp; omega) [false, false]
          exact ⟨p', n', c', w7, hr, fin _ _ _ _ _ (by unfold piece; rw [if_pos hc]) ho hk⟩
        · have hc : ¬ (C = 34 ∨ C = 92) := fun e => by rw [hb.2 e] at h1; cases h1
          intro K2 hK2
          have k2 : ∀ b w8, w8 = w5 → (b = true ↔ (C = 8 ∨ C = 9 ∨ C = 10 ∨ C = 12 ∨ C = 13)) → K2 b w8 := by
            rintro b w8 rfl hb
            refine hK2 b w8 ⟨fun h1 => ?_, fun h1 => ?_⟩
            · have hc2 := hb.1 h1
              have hget : ([98, 116, 110, 46, 102, 114] : List UInt8)[C - 8]? = some (([98, 116, 110, 46, 102, 114] : List UInt8).getD (C - 8) 0) := by
                rw [List.getD_eq_getElem?_getD, List.getElem?_eq_getElem (by simp; omega)]; rfl
              refine ⟨_, i64w (n := (C : Int) - 8) (by omega) (by omega), ([98, 116, 110, 46, 102, 114] : List UInt8).getD (C - 8) 0, ⟨by omega, by rw [show ((C : Int) - 8).toNat = C - 8 by omega]; exact hget⟩, fun w9 hw9 => ?_⟩
              obtain ⟨p', n', c', w10, hr, ho, hk, _⟩ := append_lit (bs := [92, ([98, 116, 110, 46, 102, 114] : List UInt8).getD (C - 8) 0]) ho4 (Nat.le_refl _) hk4'.size hk4' hw9 rfl rfl (by simp; omega) [false, false]
              exact ⟨p', n', c', w10, hr, fin _ _ _ _ _ (by unfold piece; rw [if_neg hc, if_pos hc2]) ho hk⟩
            · have hc2 : ¬ (C = 8 ∨ C = 9 ∨ C = 10 ∨ C = 12 ∨ C = 13) := fun e => by rw [hb.2 e] at h1; cases h1
              intro K3 hK3
              have k3 : ∀ b w11, w11 = w8 → (b = true ↔ (C < 32 ∨ (escape = true ∧ (C = 60 ∨ C = 62 ∨ C = 38)))) → K3 b w11 := by
                rintro b w11 rfl hb
                refine hK3 b w11 ⟨fun h1 => ?_, fun h1 => ?_⟩
                · have hc3 := hb.1 h1
                  obtain ⟨p', n', c', w12, hr, ho, hk, _⟩ := append_str' (l2 := [92, 117, 48, 48]) ho4 (Nat.le_refl _) hk4'.size hk4' (by simp; omega) [false, true]
                  refine ⟨p', n', c', w12, hr, _, u8w (by omega) (by omega), ?_⟩
                  refine (ret32 C (by omega) w12).go fun w13 hk13 => ⟨_, rfl, ?_⟩
                  have hkk : Keeps w w13 := Keeps.trans hk hk13
                  obtain ⟨p2, n2, c2, w14, hr2, ho2', hk2', _⟩ := append_str' (l2 := hex2 C) (ho.keeps hk13) (Nat.le_refl _) hkk.size hkk (by simp [hex2]; omega) [false, false]
                  refine ⟨p2, n2, c2, w14, hr2, fin ([92, 117, 48, 48] ++ hex2 C) _ _ _ _ (by unfold piece; rw [if_neg hc, if_neg hc2, if_pos hc3]) (by rw [← List.append_assoc]; exact ho2') hk2'⟩
                · have hc3 : ¬ (C < 32 ∨ (escape = true ∧ (C = 60 ∨ C = 62 ∨ C = 38))) := fun e => by rw [hb.2 e] at h1; cases h1
                  intro K4 hK4
                  have k4 : ∀ b w15, w15 = w11 → (b = true ↔ (C = 8232 ∨ C = 8233)) → K4 b w15 := by
                    rintro b w15 rfl hb
                    refine hK4 b w15 ⟨fun h1 => ?_, fun h1 => ?_⟩
                    · have hc4 := hb.1 h1
                      obtain ⟨p', n', c', w16, hr, ho, hk, hB⟩ := append_str' (l2 := [92, 117, 50, 48, 50]) ho4 (Nat.le_refl _) hk4'.size hk4' (by simp; omega) [false, true]
                      refine ⟨p', n', c', w16, hr, _, i64w (n := 56 + (C : Int)) (by omega) (by omega), _, i64w (n := 56 + (C : Int) - 8232) (by omega) (by omega), _, u8w (by omega) (by omega), fun w17 hw17 => ?_⟩
                      have e : (56 + (C : Int) - 8232) = ((56 + C - 8232 : Nat) : Int) := by omega
                      obtain ⟨p2, n2, c2, w18, hr2, ho2', hk2', _⟩ := append_lit (bs := [UInt8.ofNat (56 + C - 8232)]) ho (Nat.le_refl _) hB hk hw17 (by rw [e, ← u8_toNat_ofNat (56 + C - 8232) (by omega)]; rfl) rfl (by simp; omega) [false, false]
                      exact ⟨p2, n2, c2, w18, hr2, fin ([92, 117, 50, 48, 50] ++ [UInt8.ofNat (56 + C - 8232)]) _ _ _ _ (by unfold piece; rw [if_neg hc, if_neg hc2, if_neg hc3, if_pos hc4]) (by rw [← List.append_assoc]; exact ho2') hk2'⟩
                    · have hc4 : ¬ (C = 8232 ∨ C = 8233) := fun e => by rw [hb.2 e] at h1; cases h1
                      refine ⟨_, i64w (n := (k : Int) + (N : Int)) (by omega) (by omega), ⟨by omega, by omega, by omega⟩, ?_⟩
                      have e1 : ((k : Int) + (N : Int)).toNat - k = N := by omega
                      rw [e1]
                      obtain ⟨p', n', c', w16, hr, ho, hk, _⟩ := append_str' (l2 := (s.drop k).take N) ho4 (Nat.le_refl _) hk4'.size hk4' (by rw [List.length_take, List.length_drop]; omega) [false, false]
                      exact ⟨p', n', c', w16, hr, fin _ _ _ _ _ (by unfold piece; rw [if_neg hc, if_neg hc2, if_neg hc3, if_neg hc4]) ho hk⟩
                  refine ⟨fun h1 => k4 _ _ rfl ?_, fun h1 => k4 _ _ rfl ?_⟩ <;> simp only [decide_eq_true_eq, decide_eq_false_iff_not, true_iff] at * <;> omega
              refine ⟨fun h1 => k3 _ _ rfl ?_, fun h1 => ⟨fun h2 => ⟨fun h3 => k3 _ _ rfl ?_, fun h3 => ⟨fun h4 => k3 _ _ rfl ?_, fun h4 => k3 _ _ rfl ?_⟩⟩, fun h2 => k3 _ _ rfl ?_⟩⟩ <;> simp only [decide_eq_true_eq, decide_eq_false_iff_not, true_iff] at *
              · exact Or.inl (by omega)
              · exact Or.inr ⟨h2, by omega⟩
              · exact Or.inr ⟨h2, by omega⟩
              · simp only [h2, true_and]; omega
              · simp only [h2, Bool.false_eq_true, false_and, or_false, false_iff]; omega
          refine ⟨fun h1 => k2 _ _ rfl ?_, fun h1 => ⟨fun h2 => k2 _ _ rfl ?_, fun h2 => ⟨fun h3 => k2 _ _ rfl ?_, fun h3 => ⟨fun h4 => k2 _ _ rfl ?_, fun h4 => k2 _ _ rfl ?_⟩⟩⟩⟩ <;> simp only [decide_eq_true_eq, decide_eq_false_iff_not, true_iff] at * <;> omega
      refine ⟨fun h1 => k1 _ _ rfl ?_, fun h1 => k1 _ _ rfl ?_⟩ <;> simp only [decide_eq_true_eq, decide_eq_false_iff_not, true_iff] at * <;> omega
    refine ⟨fun h0 => ?_, fun h0 => ?_⟩
    · simp only [decide_eq_true_eq] at h0
      have h0 : (runeF (s.drop k)).1 = 0 := by omega
      have hget : s[k]? = some ((s.drop k).headD 0) := by
        rw [List.headD_eq_head?_getD, List.head?_drop, List.getElem?_eq_getElem hlt]; rfl
      have hb := ((s.drop k).headD 0).toNat_lt
      refine ⟨_, ⟨by omega, hget⟩, _, i64w (by omega) (by omega), ?_⟩
      have := key 1 ((s.drop k).headD 0).toNat w3.drew (hk3.drew) (by unfold stepF; rw [if_pos h0]) (by unfold stepF; rw [if_pos h0])
      exact this
    · simp only [decide_eq_false_iff_not] at h0
      have h0 : ¬ (runeF (s.drop k)).1 = 0 := by omega
      exact key _ _ w3 hk3 (by unfold stepF; rw [if_neg h0]) (by unfold stepF; rw [if_neg h0])
  · simp only [decide_eq_false_iff_not] at h
    have hd : s.drop k = [] := List.drop_eq_nil_of_le (by omega)
    rw [hd, escF_nil, List.append_nil] at hesc
    intro w20 hw20
    obtain ⟨p', n', c', w21, hr, ho, hk, _⟩ := append_lit (bs := [34]) ho2 (Nat.le_refl _) hk2.size hk2 hw20 rfl rfl (by simp; omega) [false, false]
    refine ⟨p', n', c', w21, hr, _, w21, conv_string ho.reads ho.len, ?_, hk⟩
    rw [← hesc]; rfl
end Go.Proofs.Tryz
