/- Parts of a proof, joined: VB, A2, A3, A4. -/
import Derived.Test.YtfofafjemgfobaaGreatDoorX4
set_option linter.unusedVariables false
set_option maxRecDepth 100000
namespace Go.Proofs.Tryz
open Go.Vc
def VC24 (s : Bs) (au : Bool) (w : World) (R : RR) : Prop :=
 ∀ w1, w1 = w.alloc (.cells ⟨[.int .u8 34]⟩ 5) →
 ∃ Ix : Nat → Ptr → Nat → Nat → Int → World → Prop, (∃ m_2, Ix m_2 (some (⟨w.heap.size, 0, none⟩)) 1 1 0 w1) ∧
 ∀ m, ∀ (out : Ptr) (av aw : Nat), ∀ i : Int, ∀ w2, Ix m out av aw i w2 →
 (decide (i < (s.length : Int)) = true →
 (0 ≤ i ∧ i ≤ (s.length : Int)) ∧
 Calls prog 48 ⟨[.string (mkS (s.drop i.toNat))]⟩ w2 fun e w3 => ∃ x18 aa : Int, e = .returned (.tuple ⟨[.int .i64 x18, .int .i64 aa]⟩) ∧
 ∀ Kx : Int → Int → World → Prop, (∀ nx : Int, ∀ c : Int, ∀ w4,
 (∀ ab : Bool → World → Prop, (∀ x35 : Bool, ∀ w5,
 ((x35 = true →
 ∃ x44 : Int, IntKind.u8.wrap c = x44 ∧
 ∀ w6, w6 = w5.alloc (.cells ⟨[.int .u8 92, .int .u8 x44]⟩ 5) →
 ∃ (x46 : Ptr) (ax ay : Nat), ∃ w7, BuiltinOk prog .append #[23, 23] 23 [false, false] [.slice out av aw, .slice (some (⟨w5.heap.size, 0, none⟩)) 2 2] w6 (.slice x46 ax ay) w7 ∧
 ∃ ac : Int, IntKind.i64.wrap (i + nx) = ac ∧
 ∃ m_1, m_1 < m ∧ Ix m_1 x46 ax ay ac w7) ∧ (x35 = false →
 ∀ ad : Bool → World → Prop, (∀ x47 : Bool, ∀ w8,
 ((x47 = true →
 ∃ x68 : Int, IntKind.i64.wrap (c - 8) = x68 ∧
 ∃ x69 : UInt8, ((0 : Int) ≤ x68 ∧ [98, 116, 110, 46, 102, 114][x68.toNat]? = some x69) ∧
 ∀ w9, w9 = w8.alloc (.cells ⟨[.int .u8 92, .int .u8 (x69.toNat : Int)]⟩ 5) →
 ∃ (x71 : Ptr) (az ba : Nat), ∃ w10, BuiltinOk prog .append #[23, 23] 23 [false, false] [.slice out av aw, .slice (some (⟨w8.heap.size, 0, none⟩)) 2 2] w9 (.slice x71 az ba) w10 ∧
 ∃ ae : Int, IntKind.i64.wrap (i + nx) = ae ∧
 ∃ m_1, m_1 < m ∧ Ix m_1 x71 az ba ae w10) ∧ (x47 = false →
 ∀ af : Bool → World → Prop, (∀ x72 : Bool, ∀ w11,
 ((x72 = true →
 ∃ (x91 : Ptr) (bb bc : Nat), ∃ w12, BuiltinOk prog .append #[23, 9] 23 [false, true] [.slice out av aw, .string (mkS [92, 117, 48, 48])] w11 (.slice x91 bb bc) w12 ∧
 ∃ x94 : Int, IntKind.u8.wrap c = x94 ∧
 Calls prog 32 ⟨[.int .u8 x94]⟩ w12 fun e w13 => ∃ x95 : Bs, e = .returned (.string (mkS x95)) ∧
 ∃ (x96 : Ptr) (bd be : Nat), ∃ w14, BuiltinOk prog .append #[23, 9] 23 [false, false] [.slice x91 bb bc, .string (mkS x95)] w13 (.slice x96 bd be) w14 ∧
 ∃ ag : Int, IntKind.i64.wrap (i + nx) = ag ∧
 ∃ m_1, m_1 < m ∧ Ix m_1 x96 bd be ag w14) ∧ (x72 = false →
 ∀ ah : Bool → World → Prop, (∀ x97 : Bool, ∀ w15,
 ((x97 = true →
 ∃ (ap : Ptr) (bf bg : Nat), ∃ w16, BuiltinOk prog .append #[23, 9] 23 [false, true] [.slice out av aw, .string (mkS [92, 117, 50, 48, 50])] w15 (.slice ap bf bg) w16 ∧
 ∃ ai : Int, IntKind.i64.wrap (56 + c) = ai ∧
 ∃ aj : Int, IntKind.i64.wrap (ai - 8232) = aj ∧
 ∃ ak : Int, IntKind.u8.wrap aj = ak ∧
 ∀ w17, w17 = w16.alloc (.cells ⟨[.int .u8 ak]⟩ 5) →
 ∃ (aq : Ptr) (bh bi : Nat), ∃ w18, BuiltinOk prog .append #[23, 23] 23 [false, false] [.slice ap bf bg, .slice (some (⟨w16.heap.size, 0, none⟩)) 1 1] w17 (.slice aq bh bi) w18 ∧
 ∃ al : Int, IntKind.i64.wrap (i + nx) = al ∧
 ∃ m_1, m_1 < m ∧ Ix m_1 aq bh bi al w18) ∧ (x97 = false →
 ∃ x32 : Int, IntKind.i64.wrap (i + nx) = x32 ∧
 ((0 : Int) ≤ i ∧ i ≤ x32 ∧ x32 ≤ (s.length : Int)) ∧
 ∃ (x34 : Ptr) (bj bk : Nat), ∃ w19, BuiltinOk prog .append #[23, 9] 23 [false, false] [.slice out av aw, .string (mkS ((s.drop i.toNat).take (x32.toNat - i.toNat)))] w15 (.slice x34 bj bk) w19 ∧
 ∃ am : Int, IntKind.i64.wrap (i + nx) = am ∧
 ∃ m_1, m_1 < m ∧ Ix m_1 x34 bj bk am w19)) → ah x97 w15) →
 (decide (c = 8232) = true →
 ah true w11) ∧ (decide (c = 8232) = false →
 ah (decide (c = 8233)) w11))) → af x72 w11) →
 (decide (c < 32) = true →
 af true w8) ∧ (decide (c < 32) = false →
 (au = true →
 (decide (c = 60) = true →
 af true w8) ∧ (decide (c = 60) = false →
 (decide (c = 62) = true →
 af true w8) ∧ (decide (c = 62) = false →
 af (decide (c = 38)) w8))) ∧ (au = false →
 af false w8)))) → ad x47 w8) →
 (decide (c = 8) = true →
 ad true w5) ∧ (decide (c = 8) = false →
 (decide (c = 9) = true →
 ad true w5) ∧ (decide (c = 9) = false →
 (decide (c = 10) = true →
 ad true w5) ∧ (decide (c = 10) = false →
 (decide (c = 12) = true →
 ad true w5) ∧ (decide (c = 12) = false →
 ad (decide (c = 13)) w5)))))) → ab x35 w5) →
 (decide (c = 34) = true →
 ab true w4) ∧ (decide (c = 34) = false →
 ab (decide (c = 92)) w4)) → Kx nx c w4) →
 (decide (x18 = 0) = true →
 ∃ x25 : UInt8, ((0 : Int) ≤ i ∧ s[i.toNat]? = some x25) ∧
 ∃ x26 : Int, IntKind.i64.wrap (x25.toNat : Int) = x26 ∧
 Kx 1 x26 w3.drew) ∧ (decide (x18 = 0) = false →
 Kx x18 aa w3)) ∧ (decide (i < (s.length : Int)) = false →
 ∀ w20, w20 = w2.alloc (.cells ⟨[.int .u8 34]⟩ 5) →
 ∃ (ar : Ptr) (bl bm : Nat), ∃ w21, BuiltinOk prog .append #[23, 23] 23 [false, false] [.slice out av aw, .slice (some (⟨w2.heap.size, 0, none⟩)) 1 1] w20 (.slice ar bl bm) w21 ∧
 ∃ ao : Bs, ∃ w22, (convert 23 9 (.slice ar bl bm)).run prog w21 = .ok (.string (mkS ao)) w22 ∧
 R (.string (mkS ao)) w22)
def an24 : Ann :=
 .k .z
 (.k .z
 (.k (.k .z
 (.block (.loop [(5, .slice), (6, .int .i64)] [0, 1] (.k (.k .z
 (.cond 1 2 .l .l))
 (.block (.k (.t [.q, .q, .q, .s [.int .i64, .int .i64]])
 (.cut [(7, .int .i64), (8, .int .i64)] [0, 1, 5, 6] (.k .z
 (.cond 31 32 (.reg (.loads (.take 0 (.q) (.take 1 (.q) (.take 2 (.q) (.take 3 (.q) (.take 4 (.q) (.take 5 (.q) .done)))))))) .l))
 (.k (.block (.cut [(35, .bool)] [0, 1, 5, 6, 7, 8] (.t [.q, .q, .q, .gs .n 29 30])
 (.cond 3 4 (.t [.q, .q, .q, .q, .s [.slice]]) (.cut [(47, .bool)] [0, 1, 5, 6, 7, 8] (.t [.q, .q, .q, .gs .n 21 22, .q, .q, .q, .on 22 (.gs .n 23 24) (.q), .q, .q, .q, .on 24 (.gs .n 25 26) (.q), .q, .q, .q, .on 26 (.gs .n 27 28) (.q)])
 (.cond 5 6 (.t [.q, .q, .q, .q, .q, .s [.slice]]) (.cut [(72, .bool)] [0, 1, 5, 6, 7, 8] (.t [.q, .q, .q, .gs .n 13 14, .q, .on 14 (.gs .n 15 16) (.q), .q, .q, .on 15 (.gs .n 17 18) (.q), .q, .q, .q, .on 18 (.gs .n 19 20) (.q)])
 (.cond 7 8 (.k (.t [.q, .s [.slice]])
 (.t [.q, .q, .q, .s [.str], .s [.slice]])) (.cut [(97, .bool)] [0, 1, 5, 6, 7, 8] (.t [.q, .q, .q, .gs .n 11 12])
 (.cond 9 10 (.k (.t [.q, .s [.slice]])
 (.t [.q, .q, .q, .q, .q, .q, .s [.slice]])) (.t [.q, .q, .q, .q, .q, .q, .q, .s [.slice]]))))))))))
 .z))))))))
 (.k (.t [.q, .q, .s [.slice], .s [.str]])
 .l)))
theorem c24 (s : Bs) (aa : Bool) (w : World) (R : RR) (hvc : VC24 s aa w R) : CR 24 [.string (mkS s), .bool aa] w R :=
 vcc (fn := f24) (ann := an24) hvc (by kernel_rfl) (by kernel_rfl)
def VC33 (b : Ptr) (b_n b_c : Nat) (w : World) (R : RR) : Prop :=
 ∃ Ix : Nat → Bs → Int → World → Prop, (∃ m_2, Ix m_2 [34] 0 w) ∧
 ∀ m, ∀ s : Bs, ∀ x8 : Int, ∀ w1, Ix m s x8 w1 →
 (decide (x8 < (b_n : Int)) = true →
 ((0 : Int) ≤ x8 ∧ x8 < (b_n : Int)) ∧ ∃ ba : Addr, b = some ba ∧
 ∃ x11 : Int, w1.cell? (ba.add (x8.toNat * 1)) = some (.int .u8 x11) ∧
 Calls prog 32 ⟨[.int .u8 x11]⟩ w1 fun e w2 => ∃ x14 : Bs, e = .returned (.string (mkS x14)) ∧
 s.length + x14.length ≤ 9223372036854775807 ∧
 ∃ x16 : Int, IntKind.i64.wrap (x8 + 1) = x16 ∧
 ∃ m_1, m_1 < m ∧ Ix m_1 (s ++ x14) x16 w2) ∧ (decide (x8 < (b_n : Int)) = false →
 s.length + [34].length ≤ 9223372036854775807 ∧
 R (.string (mkS (s ++ [34]))) w1)
def an33 : Ann :=
 .k .z
 (.k .z
 (.k (.k .z
 (.block (.loop [(3, .str), (8, .int .i64)] [6, 7] (.k .z
 (.k (.cond 1 2 .l .l)
 (.k (.block (.k (.t [.s [], .s [.int .u8]])
 (.t [.q, .q, .s [.str]])))
 .z))))))
 .zl))
theorem c33 (b : Ptr) (b_n b_c : Nat) (w : World) (R : RR) (hvc : VC33 b b_n b_c w R) : CR 33 [.slice b b_n b_c] w R :=
 vcc (fn := f33) (ann := an33) hvc (by kernel_rfl) (by kernel_rfl)
def VC35 (s : Bs) (w : World) (R : RR) : Prop :=
 ∃ (x7 : Ptr) (ah ai : Nat), ∃ w1, (convert 9 23 (.string (mkS s))).run prog w = .ok (.slice x7 ah ai) w1 ∧
 ∃ Ix : Nat → Int → World → Prop, (∃ m_2, Ix m_2 0 w1) ∧
 ∀ m, ∀ x10 : Int, ∀ w2, Ix m x10 w2 →
 (decide (x10 < (ah : Int)) = true →
 ∃ aa : Nat → Int → World → Prop, (∃ m_5, aa m_5 x10 w2) ∧
 ∀ m_3, ∀ k : Int, ∀ w3, aa m_3 k w3 →
 (decide (0 < k) = true →
 ((0 : Int) ≤ k ∧ k < (ah : Int)) ∧ ∃ x7a : Addr, x7 = some x7a ∧
 ∃ x20 : Int, w3.drew.cell? (x7a.add (k.toNat * 1)) = some (.int .u8 x20) ∧
 ∃ x23 : Int, IntKind.i64.wrap (k - 1) = x23 ∧
 ((0 : Int) ≤ x23 ∧ x23 < (ah : Int)) ∧ ∃ ab : Addr, x7 = some ab ∧
 ∃ x25 : Int, w3.drew.cell? (ab.add (x23.toNat * 1)) = some (.int .u8 x25) ∧
 (decide (x20 < x25) = true →
 ∃ f : List (Addr × Value), Kept w3.drew f ∧
 ∃ x34 : Int, IntKind.i64.wrap (k - 1) = x34 ∧
 ∃ x37 : Int, IntKind.i64.wrap (k - 1) = x37 ∧
 ((0 : Int) ≤ x37 ∧ x37 < (ah : Int)) ∧ ∃ ac : Addr, x7 = some ac ∧
 ∃ x39 : Int, ((ac.add (x37.toNat * 1)), .int .u8 x39) ∈ f ∧
 ((0 : Int) ≤ k ∧ k < (ah : Int)) ∧ ∃ ad : Addr, x7 = some ad ∧
 ∃ x43 : Int, ((ad.add (k.toNat * 1)), .int .u8 x43) ∈ f ∧
 ((0 : Int) ≤ k ∧ k < (ah : Int)) ∧ ∃ ae : Addr, x7 = some ae ∧
 CanStore w3.drew.drew (ae.add (k.toNat * 1)) (.int .u8 x39) ∧ ∀ w4, w4 = w3.drew.drew.setCell (ae.add (k.toNat * 1)) (.int .u8 x39) →
 ((0 : Int) ≤ x34 ∧ x34 < (ah : Int)) ∧ ∃ af : Addr, x7 = some af ∧
 CanStore w4 (af.add (x34.toNat * 1)) (.int .u8 x43) ∧ ∀ w5, w5 = w4.setCell (af.add (x34.toNat * 1)) (.int .u8 x43) →
 ∃ x29 : Int, IntKind.i64.wrap (k - 1) = x29 ∧
 ∃ m_4, m_4 < m_3 ∧ aa m_4 x29 w5) ∧ (decide (x20 < x25) = false →
 ∃ x46 : Int, IntKind.i64.wrap (x10 + 1) = x46 ∧
 ∃ m_1, m_1 < m ∧ Ix m_1 x46 w3.drew)) ∧ (decide (0 < k) = false →
 ∃ ag : Int, IntKind.i64.wrap (x10 + 1) = ag ∧
 ∃ m_1, m_1 < m ∧ Ix m_1 ag w3.drew)) ∧ (decide (x10 < (ah : Int)) = false →
 ∃ x48 : Bs, ∃ w6, (convert 23 9 (.slice x7 ah ai)).run prog w2 = .ok (.string (mkS x48)) w6 ∧
 R (.string (mkS x48)) w6)
def an35 : Ann :=
 .k .z
 (.k (.t [.q, .s [.slice]])
 (.k (.k .z
 (.block (.loop [(10, .int .i64)] [3, 9] (.k .z
 (.k (.cond 1 2 .l .l)
 (.k (.block (.k .z
 (.k .z
 (.block (.loop [(5, .int .i64)] [3, 9, 10] (.k (.k (.reg (.loads (.take 0 (.q) (.take 1 (.q) (.take 2 (.q) (.take 3 (.gs .n 3 4) (.take 4 (.q) (.take 5 (.on 4 (.q) (.s [])) (.take 6 (.on 4 (.q) (.s [.int .u8])) (.take 7 (.q) (.take 8 (.q) (.take 9 (.q) (.take 10 (.on 4 (.q) (.s [])) (.take 11 (.on 4 (.q) (.s [.int .u8])) (.take 12 (.q) (.take 13 (.q) .done))))))))))))))))
 (.on 4 (.no .l) (.cond 5 6 .l .l)))
 (.k (.block (.reg (.held [15, 17] (.take 0 (.q) (.take 1 (.q) (.take 2 (.q) (.take 3 (.q) (.take 4 (.q) (.take 5 (.q) (.take 6 (.q) (.take 7 (.q) (.take 8 (.s []) (.take 9 (.s [.int .u8]) (.take 10 (.q) (.take 11 (.q) (.take 12 (.s []) (.take 13 (.s [.int .u8]) (.take 14 (.s []) (.run 15 (.q) (.take 16 (.s []) (.run 17 (.q) .done .done)) .done)))))))))))))))))))
 .z)))))))
 .z))))))
 (.k (.t [.q, .s [.str]])
 .l)))
theorem c35 (s : Bs) (w : World) (R : RR) (hvc : VC35 s w R) : CR 35 [.string (mkS s)] w R :=
 vcc (fn := f35) (ann := an35) hvc (by kernel_rfl) (by kernel_rfl)
def VC31 (b : Ptr) (b_n b_c : Nat) (w : World) (R : RR) : Prop :=
 ∃ Ix : Nat → Ptr → Nat → Nat → Int → World → Prop, (∃ m_2, Ix m_2 none 0 0 0 w) ∧
 ∀ m, ∀ (out : Ptr) (ag ah : Nat), ∀ i : Int, ∀ w1, Ix m out ag ah i w1 →
 (decide (i < (b_n : Int)) = true →
 ∃ aa : Nat → Int → Int → Int → World → Prop, (∃ m_5, aa m_5 0 0 0 w1) ∧
 ∀ m_3, ∀ nx : Int, ∀ ab : Int, ∀ k : Int, ∀ w2, aa m_3 nx ab k w2 →
 (decide (k < 3) = true →
 (0 : Int) ≤ 8 ∧ ∃ x20 : Int, IntKind.i64.wrap (nx * 2 ^ 8) = x20 ∧
 ∃ x23 : Int, IntKind.i64.wrap (i + k) = x23 ∧
 (decide (x23 < (b_n : Int)) = true →
 ∃ x31 : Int, IntKind.i64.wrap (i + k) = x31 ∧
 ((0 : Int) ≤ x31 ∧ x31 < (b_n : Int)) ∧ ∃ ba : Addr, b = some ba ∧
 ∃ x33 : Int, w2.cell? (ba.add (x31.toNat * 1)) = some (.int .u8 x33) ∧
 ∃ x34 : Int, IntKind.i64.wrap x33 = x34 ∧
 ∃ x35 : Int, bits .or .i64 x20 x34 = x35 ∧
 ∃ x37 : Int, IntKind.i64.wrap (ab + 1) = x37 ∧
 ∃ x18 : Int, IntKind.i64.wrap (k + 1) = x18 ∧
 ∃ m_4, m_4 < m_3 ∧ aa m_4 x35 x37 x18 w2) ∧ (decide (x23 < (b_n : Int)) = false →
 ∃ ac : Int, IntKind.i64.wrap (k + 1) = ac ∧
 ∃ m_4, m_4 < m_3 ∧ aa m_4 x20 ab ac w2)) ∧ (decide (k < 3) = false →
 ∃ ad : Nat → Ptr → Nat → Nat → Int → World → Prop, (∃ m_8, ad m_8 out ag ah 0 w2) ∧
 ∀ m_6, ∀ (af : Ptr) (ai aj : Nat), ∀ k_1 : Int, ∀ w3, ad m_6 af ai aj k_1 w3 →
 (decide (k_1 < 4) = true →
 (decide (ab < k_1) = true →
 ∀ w4, w4 = w3.alloc (.cells ⟨[.int .u8 61]⟩ 5) →
 ∃ (x47 : Ptr) (ak al : Nat), ∃ w5, BuiltinOk prog .append #[23, 23] 23 [false, false] [.slice af ai aj, .slice (some (⟨w3.heap.size, 0, none⟩)) 1 1] w4 (.slice x47 ak al) w5 ∧
 ∃ x41 : Int, IntKind.i64.wrap (k_1 + 1) = x41 ∧
 ∃ m_7, m_7 < m_6 ∧ ad m_7 x47 ak al x41 w5) ∧ (decide (ab < k_1) = false →
 ∃ x51 : Int, IntKind.i64.wrap (6 * k_1) = x51 ∧
 ∃ x52 : Int, IntKind.i64.wrap (18 - x51) = x52 ∧
 (0 : Int) ≤ x52 ∧ ∃ x53 : Int, Int.fdiv nx (2 ^ (min x52.toNat 64)) = x53 ∧
 ∃ x54 : Int, bits .and .i64 x53 63 = x54 ∧
 ∃ x55 : UInt8, ((0 : Int) ≤ x54 ∧ [65, 66, 67, 68, 69, 70, 71, 72, 73, 74, 75, 76, 77, 78, 79, 80, 81, 82, 83, 84, 85, 86, 87, 88, 89, 90, 97, 98, 99, 100, 101, 102, 103, 104, 105, 106, 107, 108, 109, 110, 111, 112, 113, 114, 115, 116, 117, 118, 119, 120, 121, 122, 48, 49, 50, 51, 52, 53, 54, 55, 56, 57, 43, 47][x54.toNat]? = some x55) ∧
 ∀ w6, w6 = w3.alloc (.cells ⟨[.int .u8 (x55.toNat : Int)]⟩ 5) →
 ∃ (x57 : Ptr) (am ao : Nat), ∃ w7, BuiltinOk prog .append #[23, 23] 23 [false, false] [.slice af ai aj, .slice (some (⟨w3.heap.size, 0, none⟩)) 1 1] w6 (.slice x57 am ao) w7 ∧
 ∃ ae : Int, IntKind.i64.wrap (k_1 + 1) = ae ∧
 ∃ m_7, m_7 < m_6 ∧ ad m_7 x57 am ao ae w7)) ∧ (decide (k_1 < 4) = false →
 ∃ x14 : Int, IntKind.i64.wrap (i + 3) = x14 ∧
 ∃ m_1, m_1 < m ∧ Ix m_1 af ai aj x14 w3))) ∧ (decide (i < (b_n : Int)) = false →
 ∃ x59 : Bs, ∃ w8, (convert 23 9 (.slice out ag ah)).run prog w1 = .ok (.string (mkS x59)) w8 ∧
 R (.string (mkS x59)) w8)
def an31 : Ann :=
 .k .z
 (.k .z
 (.k (.k .z
 (.block (.loop [(3, .slice), (4, .int .i64)] [0] (.k (.k .z
 (.cond 1 2 .l .l))
 (.k (.block (.k .z
 (.k (.k .z
 (.block (.loop [(5, .int .i64), (6, .int .i64), (7, .int .i64)] [0, 3, 4] (.k (.k .z
 (.cond 3 4 .l .l))
 (.k (.block (.k .z
 (.k .z
 (.cond 5 6 (.k (.t [.q, .q, .q, .q, .q, .s [], .s [.int .u8]])
 .z) .l))))
 .z)))))
 (.k .z
 (.block (.loop [(3, .slice), (8, .int .i64)] [0, 4, 5, 6] (.k (.k .z
 (.cond 7 8 .l .l))
 (.k (.block (.k .z
 (.cond 9 10 (.t [.q, .q, .s [.slice]]) (.t [.q, .q, .q, .q, .q, .q, .q, .q, .q, .s [.slice]]))))
 .z))))))))
 .z)))))
 (.k (.t [.q, .s [.str]])
 .l)))
theorem c31 (b : Ptr) (b_n b_c : Nat) (w : World) (R : RR) (hvc : VC31 b b_n b_c w R) : CR 31 [.slice b b_n b_c] w R :=
 vcc (fn := f31) (ann := an31) hvc (by kernel_rfl) (by kernel_rfl)
def VC30 (ay : Int) (az : Bs) (ba : Bs) (xN : Int) (bb : Int) (bc : Int) (xB : Ptr) (bd be : Nat) (bf : Ptr) (bg bh : Nat) (bi : Bool) (bj : Bool) (w : World) (R : RR) : Prop :=
 ∀ w1, w1 = w.alloc (.cells ⟨[.int .i64 ay, .string (mkS az), .string (mkS ba), .int .i64 xN, .int .u64 bb, .int .u64 bc, .slice xB bd be, .slice bf bg bh]⟩ 26) →
 ∀ Kx : Bs → Bs → World → Prop, (∀ aa : Bs, ∀ ab : Bs, ∀ w2,
 (∃ (x20 : Ptr) (bk bl : Nat), w2.cell? ⟨w.heap.size, 7, none⟩ = some (.slice x20 bk bl) ∧
 ∃ Ix : Nat → Bs → Int → World → Prop, (∃ m_2, Ix m_2 aa 0 w2) ∧
 ∀ m, ∀ s : Bs, ∀ x22 : Int, ∀ w3, Ix m s x22 w3 →
 (decide (x22 < (bk : Int)) = true →
 ((0 : Int) ≤ x22 ∧ x22 < (bk : Int)) ∧ ∃ ac : Addr, x20 = some ac ∧
 ∃ x26 : Bs, ∃ ad : Int, ∃ ae af : Bs, ∃ ag ah ai : Int, ∃ (au : Ptr) (bm bn : Nat), ∃ (av : Ptr) (bo bp : Nat), LoadsRow prog 46 w3 (ac.add (x22.toNat * 9)) [.string (mkS x26), .int .i64 ad, .string (mkS ae), .string (mkS af), .int .i64 ag, .int .u64 ah, .int .u64 ai, .slice au bm bn, .slice av bo bp] ∧
 ∀ w4, w4 = w3.alloc (.cells ⟨[.string (mkS []), .int .i64 0, .string (mkS []), .string (mkS []), .int .i64 0, .int .u64 0, .int .u64 0, .slice none 0 0, .slice none 0 0]⟩ 46) →
 ∃ w5, (Instr.storeAt 46 (.pointer (some ⟨w3.heap.size, 0, none⟩)) (.agg ⟨[.string (mkS x26), .int .i64 ad, .string (mkS ae), .string (mkS af), .int .i64 ag, .int .u64 ah, .int .u64 ai, .slice au bm bn, .slice av bo bp]⟩)).run prog w4 = .ok () w5 ∧
 ∃ x29 : Int, ∃ aj ak : Bs, ∃ al am ao : Int, ∃ (aw : Ptr) (bq br : Nat), ∃ (ax : Ptr) (bs bt : Nat), LoadsRow prog 26 w5 ⟨w3.heap.size, 1, none⟩ [.int .i64 x29, .string (mkS aj), .string (mkS ak), .int .i64 al, .int .u64 am, .int .u64 ao, .slice aw bq br, .slice ax bs bt] ∧
 Calls prog 9 ⟨[.agg ⟨[.int .i64 x29, .string (mkS aj), .string (mkS ak), .int .i64 al, .int .u64 am, .int .u64 ao, .slice aw bq br, .slice ax bs bt]⟩, .bool bi, .bool bj]⟩ w5 fun e w6 => ∃ x32 : Bs, ∃ ap : Bool, e = .returned (.tuple ⟨[.string (mkS x32), .bool ap]⟩) ∧
 ((!ap) = true →
 R (.tuple ⟨[.string (mkS []), .bool false]⟩) w6) ∧ ((!ap) = false →
 ∀ aq : Bs → World → Prop, (∀ s_1 : Bs, ∀ w7,
 (∃ x42 : Int, w7.cell? ⟨w.heap.size, 0, none⟩ = some (.int .i64 x42) ∧
 (decide (x42 = 3) = true →
 ∃ x46 : Bs, w7.cell? ⟨w3.heap.size, 0, none⟩ = some (.string (mkS x46)) ∧
 Calls prog 24 ⟨[.string (mkS x46), .bool bj]⟩ w7 fun e w8 => ∃ x48 : Bs, e = .returned (.string (mkS x48)) ∧
 x48.length + [58].length ≤ 9223372036854775807 ∧
 s_1.length + (x48 ++ [58]).length ≤ 9223372036854775807 ∧
 (s_1 ++ (x48 ++ [58])).length + x32.length ≤ 9223372036854775807 ∧
 ∃ x54 : Int, IntKind.i64.wrap (x22 + 1) = x54 ∧
 ∃ m_1, m_1 < m ∧ Ix m_1 ((s_1 ++ (x48 ++ [58])) ++ x32) x54 w8) ∧ (decide (x42 = 3) = false →
 s_1.length + x32.length ≤ 9223372036854775807 ∧
 ∃ ar : Int, IntKind.i64.wrap (x22 + 1) = ar ∧
 ∃ m_1, m_1 < m ∧ Ix m_1 (s_1 ++ x32) ar w7)) → aq s_1 w7) →
 (decide (0 < x22) = true →
 s.length + [44].length ≤ 9223372036854775807 ∧
 aq (s ++ [44]) w6) ∧ (decide (0 < x22) = false →
 aq s w6))) ∧ (decide (x22 < (bk : Int)) = false →
 s.length + ab.length ≤ 9223372036854775807 ∧
 R (.tuple ⟨[.string (mkS (s ++ ab)), .bool true]⟩) w3)) → Kx aa ab w2) →
 ∃ x16 : Int, w1.cell? ⟨w.heap.size, 0, none⟩ = some (.int .i64 x16) ∧
 (decide (x16 = 4) = true →
 Kx [91] [93] w1) ∧ (decide (x16 = 4) = false →
 Kx [123] [125] w1)
def an30 : Ann :=
 .k .z
 (.k .z
 (.cut [(8, .str), (9, .str)] [1, 2, 3] (.k (.t [.q, .s [.int .i64]])
 (.cond 9 10 .z .l))
 (.k .z
 (.k (.k (.t [.q, .s [.slice]])
 (.block (.loop [(10, .str), (22, .int .i64)] [1, 2, 3, 9, 20, 21] (.k .z
 (.k (.cond 1 2 .l .l)
 (.k (.block (.k (.t [.q, .s [], .s [.str, .int .i64, .str, .str, .int .i64, .int .u64, .int .u64, .slice, .slice]])
 (.k (.t [.q, .s [.int .i64, .str, .str, .int .i64, .int .u64, .int .u64, .slice, .slice], .q, .q, .s [.str, .bool]])
 (.k (.k .z
 (.cond 3 4 .zl .l))
 (.cut [(10, .str)] [1, 2, 3, 9, 12, 13, 20, 21, 22] (.k .z
 (.cond 7 8 .z .l))
 (.k (.k (.t [.q, .s [.int .i64]])
 (.cond 5 6 (.t [.q, .q, .s [.str], .q, .s [.str]]) .l))
 .z))))))
 .z))))))
 .zl))))
theorem c30 (aa : Int) (ab : Bs) (ac : Bs) (xN : Int) (ad : Int) (ae : Int) (xB : Ptr) (af ag : Nat) (ah : Ptr) (ai aj : Nat) (ak : Bool) (al : Bool) (w : World) (R : RR) (hvc : VC30 aa ab ac xN ad ae xB af ag ah ai aj ak al w R) : CR 30 [.agg ⟨[.int .i64 aa, .string (mkS ab), .string (mkS ac), .int .i64 xN, .int .u64 ad, .int .u64 ae, .slice xB af ag, .slice ah ai aj]⟩, .bool ak, .bool al] w R :=
 vcc (fn := f30) (ann := an30) hvc (by kernel_rfl) (by kernel_rfl)
end Go.Proofs.Tryz
set_option linter.unusedVariables false
namespace Go.Proofs.Tryz
open Go.Vc Go.RowKit
theorem tailF_le (n c least : Nat) (s : List UInt8) : (tailF n c least s).1 ≤ s.length := by
  unfold tailF
  split
  · exact Nat.zero_le _
  · split
    · split
      · simp only; omega
      · exact Nat.zero_le _
    · exact Nat.zero_le _
theorem runeF_le (s : List UInt8) : (runeF s).1 ≤ s.length := by
  cases s with
  | nil => exact Nat.le_refl _
  | cons a r =>
    rw [runeF]
    split
    · simp
    · exact tailF_le _ _ _ _
def stepF (s : List UInt8) : Nat × Nat × Bool := if (runeF s).1 = 0 then (1, (s.headD 0).toNat, false) else ((runeF s).1, (runeF s).2, true)
theorem stepF_pos (s : List UInt8) : 1 ≤ (stepF s).1 := by
  unfold stepF; split <;> simp only <;> omega
theorem stepF_le (s : List UInt8) (h : s ≠ []) : (stepF s).1 ≤ s.length := by
  have := runeF_le s
  have : 0 < s.length := List.length_pos_iff.2 h
  unfold stepF; split <;> simp only <;> omega
def chunksG : Nat → List UInt8 → List (List UInt8 × Nat × Bool)
  | 0, _ => []
  | f + 1, s => if s = [] then [] else (s.take (stepF s).1, (stepF s).2) :: chunksG f (s.drop (stepF s).1)
def chunks (s : List UInt8) : List (List UInt8 × Nat × Bool) := chunksG s.length s
theorem chunksG_fuel : ∀ (f g : Nat) (s : List UInt8), s.length ≤ f → s.length ≤ g → chunksG f s = chunksG g s
  | 0, g, s, hf, hg => by
    have : s = [] := List.eq_nil_of_length_eq_zero (by omega)
    subst this
    cases g <;> simp [chunksG]
  | f + 1, 0, s, hf, hg => by
    have : s = [] := List.eq_nil_of_length_eq_zero (by omega)
    subst this
    simp [chunksG]
  | f + 1, g + 1, s, hf, hg => by
    simp only [chunksG]
    split
    · rfl
    · have := stepF_pos s
      rw [chunksG_fuel f g _ (by rw [List.length_drop]; omega) (by rw [List.length_drop]; omega)]
theorem chunks_cons (s : List UInt8) (h : s ≠ []) : chunks s = (s.take (stepF s).1, (stepF s).2) :: chunks (s.drop (stepF s).1) := by
  have hl : 0 < s.length := List.length_pos_iff.2 h
  have hp := stepF_pos s
  unfold chunks
  obtain ⟨n, hn⟩ : ∃ n, s.length = n + 1 := ⟨s.length - 1, by omega⟩
  rw [hn]
  simp only [chunksG, if_neg h]
  rw [chunksG_fuel n (s.drop (stepF s).1).length _ (by rw [List.length_drop]; omega) (Nat.le_refl _)]
def utf8F (s : List UInt8) : Bool := (chunks s).all fun x => x.2.2
theorem utf8F_cons (s : List UInt8) (h : s ≠ []) : utf8F s = (!decide ((runeF s).1 = 0) && utf8F (s.drop (stepF s).1)) := by
  unfold utf8F
  rw [chunks_cons s h, List.all_cons]
  congr 1
  unfold stepF; split <;> simp [*]
theorem ret110 (s : List UInt8) (w : World) (hs : s.length ≤ 1099511627776) : Ret 110 [.string (mkS s)] w (.bool (utf8F s)) := by
  refine Ret.of (c110 s w _ ?_)
  unfold VC110
  refine ⟨fun m i w1 => Keeps w w1 ∧ ∃ k : Nat, i = k ∧ k ≤ s.length ∧ m = s.length - k ∧ utf8F s = utf8F (s.drop k), ⟨s.length, Keeps.refl _, 0, rfl, by omega, rfl, rfl⟩, ?_⟩
  rintro m i w1 ⟨hk, k, rfl, hkl, rfl, hu⟩
  refine ⟨fun h => ?_, fun h => ?_⟩
  · simp only [decide_eq_true_eq] at h
    have hlt : k < s.length := by omega
    have hne : s.drop k ≠ [] := by
      intro e; have := congrArg List.length e; simp at this; omega
    refine ⟨⟨by omega, by omega⟩, ?_⟩
    have ek : ((k : Int)).toNat = k := rfl
    rw [ek]
    refine (ret48 (s.drop k) w1).go fun w2 hk2 => ⟨_, _, rfl, fun h0 => ?_, fun h0 => ?_⟩
    · simp only [decide_eq_true_eq] at h0
      refine ⟨?_, hk.trans hk2⟩
      rw [hu, utf8F_cons _ hne]
      have : (runeF (s.drop k)).1 = 0 := by omega
      simp [this]
    · simp only [decide_eq_false_iff_not] at h0
      have hle := runeF_le (s.drop k)
      rw [List.length_drop] at hle
      have hne0 : ¬ (runeF (s.drop k)).1 = 0 := by omega
      have hst : (stepF (s.drop k)).1 = (runeF (s.drop k)).1 := by unfold stepF; rw [if_neg hne0]
      refine ⟨_, i64w (by omega) (by omega), s.length - (k + (runeF (s.drop k)).1), by omega, hk.trans hk2, k + (runeF (s.drop k)).1, by omega, by omega, rfl, ?_⟩
      rw [hu, utf8F_cons _ hne, hst, List.drop_drop]
      simp [hne0]
  · simp only [decide_eq_false_iff_not] at h
    refine ⟨?_, hk⟩
    have : s.drop k = [] := List.drop_eq_nil_of_le (by omega)
    rw [hu, this]; rfl
def textF (s : List UInt8) : Bool := decide (s.length ≤ 300) && utf8F s
theorem ret56 (s : List UInt8) (w : World) : Ret 56 [.string (mkS s)] w (.bool (textF s)) := by
  refine Ret.of (c56 s w _ ?_)
  unfold VC56 textF
  refine ⟨fun h => ?_, fun h => ?_⟩
  · simp only [decide_eq_true_eq] at h
    refine (ret110 s w (by omega)).go fun w1 hk => ⟨_, rfl, ?_, hk⟩
    have : s.length ≤ 300 := by omega
    simp [this]
  · simp only [decide_eq_false_iff_not] at h
    refine ⟨?_, Keeps.refl _⟩
    have : ¬ s.length ≤ 300 := by omega
    simp [this]
def hexD (n : Nat) : UInt8 := [48, 49, 50, 51, 52, 53, 54, 55, 56, 57, 97, 98, 99, 100, 101, 102].getD n 0
def hex2 (b : Nat) : List UInt8 := [hexD (b / 16), hexD (b % 16)]
theorem hexD_get (n : Nat) (h : n < 16) : ([48, 49, 50, 51, 52, 53, 54, 55, 56, 57, 97, 98, 99, 100, 101, 102] : List UInt8)[n]? = some (hexD n) := by
  unfold hexD
  rw [List.getD_eq_getElem?_getD, List.getElem?_eq_getElem (by simpa using h)]; rfl
theorem ret32 (b : Nat) (hb : b < 256) (w : World) : Ret 32 [.int .u8 (b : Int)] w (.string (mkS (hex2 b))) := by
  refine Ret.of (c32 b w _ ?_)
  unfold VC32
  refine ⟨[], trivial, by decide, _, rfl, hexD (b / 16), ?_, _, rfl, hexD (b % 16), ?_, ?_⟩
  · have : Int.fdiv (b : Int) (2 ^ 4) = ((b / 16 : Nat) : Int) := fdiv_nat b 4
    rw [this]
    exact ⟨by omega, hexD_get _ (by omega)⟩
  · have := u8_and15 (x := (b : Int)) (by omega) (by omega)
    rw [this]
    have e : (b : Int) % 16 = ((b % 16 : Nat) : Int) := by omega
    rw [e]
    exact ⟨by omega, hexD_get _ (by omega)⟩
  · rintro w1 rfl
    have ho := Own.new w.heap.size w.drew (hex2 b) (Nat.le_refl _) (by simp [hex2])
    refine ⟨hex2 b, _, conv_string (n := 2) ho.reads rfl, rfl, ?_⟩
    exact (Keeps.refl w).drew.alloc _
def piece (escape : Bool) (bs : List UInt8) (c : Nat) : List UInt8 :=
  if c = 34 ∨ c = 92 then [92, UInt8.ofNat c]
  else if c = 8 ∨ c = 9 ∨ c = 10 ∨ c = 12 ∨ c = 13 then [92, [98, 116, 110, 46, 102, 114].getD (c - 8) 0]
  else if c < 32 ∨ (escape = true ∧ (c = 60 ∨ c = 62 ∨ c = 38)) then [92, 117, 48, 48] ++ hex2 c
  else if c = 8232 ∨ c = 8233 then [92, 117, 50, 48, 50] ++ [UInt8.ofNat (56 + c - 8232)]
  else bs
def escF (escape : Bool) (s : List UInt8) : List UInt8 := (chunks s).flatMap fun x => piece escape x.1 x.2.1
def strF (escape : Bool) (s : List UInt8) : List UInt8 := 34 :: (escF escape s ++ [34])
theorem escF_nil (e : Bool) : escF e [] = [] := rfl
theorem escF_cons (e : Bool) (s : List UInt8) (h : s ≠ []) : escF e s = piece e (s.take (stepF s).1) (stepF s).2.1 ++ escF e (s.drop (stepF s).1) := by
  unfold escF
  rw [chunks_cons s h, List.flatMap_cons]
theorem piece_len (e : Bool) (bs : List UInt8) (c : Nat) (h : 1 ≤ bs.length) : (piece e bs c).length ≤ 6 * bs.length := by
  unfold piece hex2
  split
  · simp; omega
  · split
    · simp; omega
    · split
      · simp; omega
      · split
        · simp; omega
        · omega
theorem escF_len (e : Bool) : ∀ (n : Nat) (s : List UInt8), s.length ≤ n → (escF e s).length ≤ 6 * s.length
  | 0, s, h => by
    have : s = [] := List.eq_nil_of_length_eq_zero (by omega)
    subst this; simp [escF_nil]
  | n + 1, s, h => by
    by_cases hs : s = []
    · subst hs; simp [escF_nil]
    · have h1 := stepF_pos s
      have h2 := stepF_le s hs
      rw [escF_cons e s hs, List.length_append]
      have h3 := escF_len e n (s.drop (stepF s).1) (by rw [List.length_drop]; omega)
      rw [List.length_drop] at h3
      have h4 := piece_len e (s.take (stepF s).1) (stepF s).2.1 (by rw [List.length_take]; omega)
      rw [List.length_take] at h4
      omega
theorem strF_len (e : Bool) (s : List UInt8) : (strF e s).length ≤ 6 * s.length + 2 := by
  have := escF_len e s.length s (Nat.le_refl _)
  simp [strF]; omega
theorem tailF_lt (n c least : Nat) (s : List UInt8) : (tailF n c least s).2 ≤ 1114111 := by
  unfold tailF
  split
  · simp
  · split
    · split
      · rename_i h; unfold okC at h; simp only [Bool.and_eq_true, decide_eq_true_eq] at h; simp only; omega
      · simp
    · simp
theorem stepF_lt (s : List UInt8) : (stepF s).2.1 ≤ 1114111 := by
  have hb : ∀ b : UInt8, b.toNat ≤ 1114111 := fun b => by have := b.toNat_lt; omega
  unfold stepF
  split
  · exact hb _
  · cases s with
    | nil => simp [runeF]
    | cons a r =>
      rw [runeF]
      split
      · exact hb _
      · exact tailF_lt _ _ _ _
theorem u8_toNat_ofNat (n : Nat) (h : n < 256) : ((UInt8.ofNat n).toNat : Int) = (n : Int) := by
  have : (UInt8.ofNat n).toNat = n := by simp [UInt8.toNat_ofNat']; omega
  rw [this]
theorem ret24 (s : List UInt8) (escape : Bool) (w : World) (hs : s.length ≤ 1099511627776) : Ret 24 [.string (mkS s), .bool escape] w (.string (mkS (strF escape s))) := by
  refine Ret.of (c24 s escape w _ ?_)
  unfold VC24
  rintro w1 rfl
  have ho1 := Own.new w.heap.size w [34] (Nat.le_refl _) (by simp)
  have hk1 : Keeps w (w.alloc (.cells ⟨bc [34]⟩ 5)) := (Keeps.refl w).alloc _
  refine ⟨fun m p n c i w2 => Keeps w w2 ∧ ∃ (k : Nat) (acc : List UInt8), i = k ∧ k ≤ s.length ∧ m = s.length - k ∧ Own w.heap.size w2 p n c acc ∧ acc.length ≤ 1 + 6 * k ∧ 34 :: escF escape s = acc ++ escF escape (s.drop k),
    ⟨s.length, hk1, 0, [34], rfl, by omega, rfl, ho1, by simp, by simp⟩, ?_⟩
  rintro m p n c i w2 ⟨hk2, k, acc, rfl, hkl, rfl, ho2, hal, hesc⟩
  have ek : ((k : Int)).toNat = k := rfl
  refine ⟨fun h => ?_, fun h => ?_⟩
  · simp only [decide_eq_true_eq] at h
    have hlt : k < s.length := by omega
    have hne : s.drop k ≠ [] := by
      intro e; have := congrArg List.length e; simp at this; omega
    have hp := stepF_pos (s.drop k)
    have hle := stepF_le (s.drop k) hne
    rw [List.length_drop] at hle
    have hclt := stepF_lt (s.drop k)
    have hcons := escF_cons escape (s.drop k) hne
    rw [List.drop_drop] at hcons
    have hpl := piece_len escape ((s.drop k).take (stepF (s.drop k)).1) (stepF (s.drop k)).2.1 (by rw [List.length_take, List.length_drop]; omega)
    rw [List.length_take, List.length_drop] at hpl
    refine ⟨⟨by omega, by omega⟩, ?_⟩
    rw [ek]
    refine (ret48 (s.drop k) w2).go fun w3 hk3 => ⟨_, _, rfl, ?_⟩
    intro Kx hK
    have key : ∀ (N C : Nat) (w4 : World), Keeps w2 w4 → N = (stepF (s.drop k)).1 → C = (stepF (s.drop k)).2.1 → Kx N C w4 := by
      intro N C w4 hk4 hN hC
      refine hK N C w4 ?_
      have ho4 := ho2.keeps hk4
      have hk4' := hk2.trans hk4
      rw [← hN] at hcons hpl hp hle
      rw [← hC] at hcons hpl hclt
      -- the round's end
      have fin : ∀ (bs : List UInt8) (p' : Option Addr) (n' c' : Nat) (w' : World), bs = piece escape ((s.drop k).take N) C → Own w.heap.size w' p' n' c' (acc ++ bs) → Keeps w w' →
          ∃ x : Int, IntKind.i64.wrap ((k : Int) + (N : Int)) = x ∧ ∃ m_1, m_1 < s.length - k ∧ (Keeps w w' ∧ ∃ (k' : Nat) (acc' : List UInt8), x = k' ∧ k' ≤ s.length ∧ m_1 = s.length - k' ∧ Own w.heap.size w' p' n' c' acc' ∧ acc'.length ≤ 1 + 6 * k' ∧ 34 :: escF escape s = acc' ++ escF escape (s.drop k')) := by
        intro bs p' n' c' w' hbs ho hkw
        refine ⟨_, i64w (by omega) (by omega), s.length - (k + N), by omega, hkw, k + N, acc ++ bs, by omega, by omega, rfl, ho, ?_, ?_⟩
        · rw [List.length_append, hbs]; omega
        · rw [hesc, hcons, List.append_assoc, hbs]
      intro K1 hK1
      have k1 : ∀ b w5, w5 = w4 → (b = true ↔ (C = 34 ∨ C = 92)) → K1 b w5 := by
        rintro b w5 rfl hb
        refine hK1 b w5 ⟨fun h1 => ?_, fun h1 => ?_⟩
        · have hc := hb.1 h1
          refine ⟨_, u8w (by omega) (by omega), fun w6 hw6 => ?_⟩
          obtain ⟨p', n', c', w7, hr, ho, hk, _⟩ := append_lit (bs := [92, UInt8.ofNat C]) ho4 (Nat.le_refl _) hk4'.size hk4' hw6 (by rw [← u8_toNat_ofNat C (by omega)]; rfl) rfl (by simp; omega) [false, false]
          exact ⟨p', n', c', w7, hr, fin _ _ _ _ _ (by unfold piece; rw [if_pos hc]) ho hk⟩
        · have hc : ¬ (C = 34 ∨ C = 92) := fun e => by rw [hb.2 e] at h1; cases h1
          intro K2 hK2
          have k2 : ∀ b w8, w8 = w5 → (b = true ↔ (C = 8 ∨ C = 9 ∨ C = 10 ∨ C = 12 ∨ C = 13)) → K2 b w8 := by
            rintro b w8 rfl hb
            refine hK2 b w8 ⟨fun h1 => ?_, fun h1 => ?_⟩
            · have hc2 := hb.1 h1
              have hget : ([98, 116, 110, 46, 102, 114] : List UInt8)[C - 8]? = some (([98, 116, 110, 46, 102, 114] : List UInt8).getD (C - 8) 0) := by
                rw [List.getD_eq_getElem?_getD, List.getElem?_eq_getElem (by simp; omega)]; rfl
              refine ⟨_, i64w (n := (C : Int) - 8) (by omega) (by omega), ([98, 116, 110, 46, 102, 114] : List UInt8).getD (C - 8) 0, ⟨by omega, by rw [show ((C : Int) - 8).toNat = C - 8 by omega]; exact hget⟩, fun w9 hw9 => ?_⟩
              obtain ⟨p', n', c', w10, hr, ho, hk, _⟩ := append_lit (bs := [92, ([98, 116, 110, 46, 102, 114] : List UInt8).getD (C - 8) 0]) ho4 (Nat.le_refl _) hk4'.size hk4' hw9 rfl rfl (by simp; omega) [false, false]
              exact ⟨p', n', c', w10, hr, fin _ _ _ _ _ (by unfold piece; rw [if_neg hc, if_pos hc2]) ho hk⟩
            · have hc2 : ¬ (C = 8 ∨ C = 9 ∨ C = 10 ∨ C = 12 ∨ C = 13) := fun e => by rw [hb.2 e] at h1; cases h1
              intro K3 hK3
              have k3 : ∀ b w11, w11 = w8 → (b = true ↔ (C < 32 ∨ (escape = true ∧ (C = 60 ∨ C = 62 ∨ C = 38)))) → K3 b w11 := by
                rintro b w11 rfl hb
                refine hK3 b w11 ⟨fun h1 => ?_, fun h1 => ?_⟩
                · have hc3 := hb.1 h1
                  obtain ⟨p', n', c', w12, hr, ho, hk, _⟩ := append_str' (l2 := [92, 117, 48, 48]) ho4 (Nat.le_refl _) hk4'.size hk4' (by simp; omega) [false, true]
                  refine ⟨p', n', c', w12, hr, _, u8w (by omega) (by omega), ?_⟩
                  refine (ret32 C (by omega) w12).go fun w13 hk13 => ⟨_, rfl, ?_⟩
                  have hkk : Keeps w w13 := Keeps.trans hk hk13
                  obtain ⟨p2, n2, c2, w14, hr2, ho2', hk2', _⟩ := append_str' (l2 := hex2 C) (ho.keeps hk13) (Nat.le_refl _) hkk.size hkk (by simp [hex2]; omega) [false, false]
                  refine ⟨p2, n2, c2, w14, hr2, fin ([92, 117, 48, 48] ++ hex2 C) _ _ _ _ (by unfold piece; rw [if_neg hc, if_neg hc2, if_pos hc3]) (by rw [← List.append_assoc]; exact ho2') hk2'⟩
                · have hc3 : ¬ (C < 32 ∨ (escape = true ∧ (C = 60 ∨ C = 62 ∨ C = 38))) := fun e => by rw [hb.2 e] at h1; cases h1
                  intro K4 hK4
                  have k4 : ∀ b w15, w15 = w11 → (b = true ↔ (C = 8232 ∨ C = 8233)) → K4 b w15 := by
                    rintro b w15 rfl hb
                    refine hK4 b w15 ⟨fun h1 => ?_, fun h1 => ?_⟩
                    · have hc4 := hb.1 h1
                      obtain ⟨p', n', c', w16, hr, ho, hk, hB⟩ := append_str' (l2 := [92, 117, 50, 48, 50]) ho4 (Nat.le_refl _) hk4'.size hk4' (by simp; omega) [false, true]
                      refine ⟨p', n', c', w16, hr, _, i64w (n := 56 + (C : Int)) (by omega) (by omega), _, i64w (n := 56 + (C : Int) - 8232) (by omega) (by omega), _, u8w (by omega) (by omega), fun w17 hw17 => ?_⟩
                      have e : (56 + (C : Int) - 8232) = ((56 + C - 8232 : Nat) : Int) := by omega
                      obtain ⟨p2, n2, c2, w18, hr2, ho2', hk2', _⟩ := append_lit (bs := [UInt8.ofNat (56 + C - 8232)]) ho (Nat.le_refl _) hB hk hw17 (by rw [e, ← u8_toNat_ofNat (56 + C - 8232) (by omega)]; rfl) rfl (by simp; omega) [false, false]
                      exact ⟨p2, n2, c2, w18, hr2, fin ([92, 117, 50, 48, 50] ++ [UInt8.ofNat (56 + C - 8232)]) _ _ _ _ (by unfold piece; rw [if_neg hc, if_neg hc2, if_neg hc3, if_pos hc4]) (by rw [← List.append_assoc]; exact ho2') hk2'⟩
                    · have hc4 : ¬ (C = 8232 ∨ C = 8233) := fun e => by rw [hb.2 e] at h1; cases h1
                      refine ⟨_, i64w (n := (k : Int) + (N : Int)) (by omega) (by omega), ⟨by omega, by omega, by omega⟩, ?_⟩
                      have e1 : ((k : Int) + (N : Int)).toNat - k = N := by omega
                      rw [e1]
                      obtain ⟨p', n', c', w16, hr, ho, hk, _⟩ := append_str' (l2 := (s.drop k).take N) ho4 (Nat.le_refl _) hk4'.size hk4' (by rw [List.length_take, List.length_drop]; omega) [false, false]
                      exact ⟨p', n', c', w16, hr, fin _ _ _ _ _ (by unfold piece; rw [if_neg hc, if_neg hc2, if_neg hc3, if_neg hc4]) ho hk⟩
                  refine ⟨fun h1 => k4 _ _ rfl ?_, fun h1 => k4 _ _ rfl ?_⟩ <;> simp only [decide_eq_true_eq, decide_eq_false_iff_not, true_iff] at * <;> omega
              refine ⟨fun h1 => k3 _ _ rfl ?_, fun h1 => ⟨fun h2 => ⟨fun h3 => k3 _ _ rfl ?_, fun h3 => ⟨fun h4 => k3 _ _ rfl ?_, fun h4 => k3 _ _ rfl ?_⟩⟩, fun h2 => k3 _ _ rfl ?_⟩⟩ <;> simp only [decide_eq_true_eq, decide_eq_false_iff_not, true_iff] at *
              · exact Or.inl (by omega)
              · exact Or.inr ⟨h2, by omega⟩
              · exact Or.inr ⟨h2, by omega⟩
              · simp only [h2, true_and]; omega
              · simp only [h2, Bool.false_eq_true, false_and, or_false, false_iff]; omega
          refine ⟨fun h1 => k2 _ _ rfl ?_, fun h1 => ⟨fun h2 => k2 _ _ rfl ?_, fun h2 => ⟨fun h3 => k2 _ _ rfl ?_, fun h3 => ⟨fun h4 => k2 _ _ rfl ?_, fun h4 => k2 _ _ rfl ?_⟩⟩⟩⟩ <;> simp only [decide_eq_true_eq, decide_eq_false_iff_not, true_iff] at * <;> omega
      refine ⟨fun h1 => k1 _ _ rfl ?_, fun h1 => k1 _ _ rfl ?_⟩ <;> simp only [decide_eq_true_eq, decide_eq_false_iff_not, true_iff] at * <;> omega
    refine ⟨fun h0 => ?_, fun h0 => ?_⟩
    · simp only [decide_eq_true_eq] at h0
      have h0 : (runeF (s.drop k)).1 = 0 := by omega
      have hget : s[k]? = some ((s.drop k).headD 0) := by
        rw [List.headD_eq_head?_getD, List.head?_drop, List.getElem?_eq_getElem hlt]; rfl
      have hb := ((s.drop k).headD 0).toNat_lt
      refine ⟨_, ⟨by omega, hget⟩, _, i64w (by omega) (by omega), ?_⟩
      have := key 1 ((s.drop k).headD 0).toNat w3.drew (hk3.drew) (by unfold stepF; rw [if_pos h0]) (by unfold stepF; rw [if_pos h0])
      exact this
    · simp only [decide_eq_false_iff_not] at h0
      have h0 : ¬ (runeF (s.drop k)).1 = 0 := by omega
      exact key _ _ w3 hk3 (by unfold stepF; rw [if_neg h0]) (by unfold stepF; rw [if_neg h0])
  · simp only [decide_eq_false_iff_not] at h
    have hd : s.drop k = [] := List.drop_eq_nil_of_le (by omega)
    rw [hd, escF_nil, List.append_nil] at hesc
    intro w20 hw20
    obtain ⟨p', n', c', w21, hr, ho, hk, _⟩ := append_lit (bs := [34]) ho2 (Nat.le_refl _) hk2.size hk2 hw20 rfl rfl (by simp; omega) [false, false]
    refine ⟨p', n', c', w21, hr, _, w21, conv_string ho.reads ho.len, ?_, hk⟩
    rw [← hesc]; rfl
def hexAll (l : List UInt8) : List UInt8 := l.flatMap fun b => hex2 b.toNat
theorem hexAll_len (l : List UInt8) : (hexAll l).length = 2 * l.length := by
  induction l with
  | nil => rfl
  | cons a l ih =>
    have : (hexAll (a :: l)).length = 2 + (hexAll l).length := by simp [hexAll, hex2]; omega
    rw [this, ih, List.length_cons]; omega
theorem hexAll_snoc (l : List UInt8) (b : UInt8) : hexAll (l ++ [b]) = hexAll l ++ hex2 b.toNat := by simp [hexAll]
def idF (l : List UInt8) : List UInt8 := 34 :: (hexAll l ++ [34])
theorem take_succ_get {α : Type} (l : List α) (k : Nat) (b : α) (h : l[k]? = some b) : l.take (k + 1) = l.take k ++ [b] := by
  rw [List.take_add_one, h]; rfl
theorem ret33 (p : Option Addr) (c : Nat) (l : List UInt8) (w : World) (hr : ReadsB w p l) (hl : l.length ≤ 1099511627776) : Ret 33 [.slice p l.length c] w (.string (mkS (idF l))) := by
  refine Ret.of (c33 p l.length c w _ ?_)
  unfold VC33
  refine ⟨fun m s i w1 => Keeps w w1 ∧ ∃ k : Nat, i = k ∧ k ≤ l.length ∧ m = l.length - k ∧ s = 34 :: hexAll (l.take k), ⟨l.length, Keeps.refl _, 0, rfl, by omega, rfl, by simp [hexAll]⟩, ?_⟩
  rintro m s i w1 ⟨hk, k, rfl, hkl, rfl, rfl⟩
  have hlen := hexAll_len (l.take k)
  rw [List.length_take] at hlen
  refine ⟨fun h => ?_, fun h => ?_⟩
  · simp only [decide_eq_true_eq] at h
    have hlt : k < l.length := by omega
    have hget := List.getElem?_eq_getElem hlt
    obtain ⟨a, ha, hc⟩ := hr k _ hget
    refine ⟨⟨by omega, by omega⟩, a, ha, ((l[k]'hlt).toNat : Int), ?_, ?_⟩
    · have e : (k : Int).toNat * 1 = k := by simp
      rw [e]; exact hk.cell hc
    · refine (ret32 _ (byte_lt _) w1).go fun w2 hk2 => ⟨_, rfl, ?_, _, i64w (by omega) (by omega), l.length - (k + 1), by omega, hk.trans hk2, k + 1, by omega, by omega, rfl, ?_⟩
      · simp [hex2]; omega
      · rw [take_succ_get l k _ hget, hexAll_snoc]; rfl
  · simp only [decide_eq_false_iff_not] at h
    have hkk : k = l.length := by omega
    subst hkk
    rw [Nat.min_self] at hlen
    refine ⟨by rw [List.length_cons, hlen, List.length_singleton]; omega, ?_, hk⟩
    rw [List.take_length]; rfl
def sortedB (s : List UInt8) : Prop := ∀ (i : Nat) (a b : UInt8), s[i]? = some a → s[i + 1]? = some b → a.toNat ≤ b.toNat
theorem ret35 (s : List UInt8) (w : World) (hs : sortedB s) (hl : s.length ≤ 1099511627776) : Ret 35 [.string (mkS s)] w (.string (mkS s)) := by
  refine Ret.of (c35 s w _ ?_)
  unfold VC35
  obtain ⟨c, w1, hconv, _, hk1, _, hrd, _⟩ := conv_bytes w s
  refine ⟨_, _, _, w1, hconv, fun m i w2 => Keeps w1 w2 ∧ ∃ k : Nat, i = k ∧ k ≤ s.length ∧ m = s.length - k, ⟨s.length, Keeps.refl _, 0, rfl, by omega, rfl⟩, ?_⟩
  rintro m i w2 ⟨hk2, k, rfl, hkl, rfl⟩
  refine ⟨fun h => ?_, fun h => ?_⟩
  · simp only [decide_eq_true_eq] at h
    refine ⟨fun m j w3 => Keeps w1 w3 ∧ j = k, ⟨0, hk2, rfl⟩, ?_⟩
    rintro m j w3 ⟨hk3, rfl⟩
    have hlt : k < s.length := by omega
    refine ⟨fun h0 => ?_, fun h0 => ?_⟩
    · simp only [decide_eq_true_eq] at h0
      have hget := List.getElem?_eq_getElem hlt
      have hget' := List.getElem?_eq_getElem (show k - 1 < s.length by omega)
      have hle := hs (k - 1) _ _ hget' (by rw [show k - 1 + 1 = k by omega]; exact hget)
      refine ⟨⟨by omega, by omega⟩, _, rfl, ((s[k]'hlt).toNat : Int), ?_, _, i64w (n := (k : Int) - 1) (by omega) (by omega), ⟨by omega, by omega⟩, _, rfl, ((s[k - 1]'(by omega)).toNat : Int), ?_, fun hx => ?_, fun hx => ⟨_, i64w (n := (k : Int) + 1) (by omega) (by omega), s.length - (k + 1), by omega, hk3.drew, k + 1, by omega, by omega, rfl⟩⟩
      · have e : (k : Int).toNat * 1 = k := by simp
        rw [e]; exact hk3.cell (hrd.at hget)
      · have e : ((k : Int) - 1).toNat * 1 = k - 1 := by omega
        rw [e]; exact hk3.cell (hrd.at hget')
      · simp only [decide_eq_true_eq] at hx; omega
    · exact ⟨_, i64w (n := (k : Int) + 1) (by omega) (by omega), s.length - (k + 1), by omega, hk3.drew, k + 1, by omega, by omega, rfl⟩
  · exact ⟨s, w2, conv_string (hrd.keeps hk2) rfl, rfl, hk1.trans hk2⟩
def letters64 : List UInt8 := [65, 66, 67, 68, 69, 70, 71, 72, 73, 74, 75, 76, 77, 78, 79, 80, 81, 82, 83, 84, 85, 86, 87, 88, 89, 90, 97, 98, 99, 100, 101, 102, 103, 104, 105, 106, 107, 108, 109, 110, 111, 112, 113, 114, 115, 116, 117, 118, 119, 120, 121, 122, 48, 49, 50, 51, 52, 53, 54, 55, 56, 57, 43, 47]
def L64 (i : Nat) : UInt8 := letters64.getD i 0
theorem L64_get (n : Nat) (h : n < 64) : letters64[n]? = some (L64 n) := by
  unfold L64
  rw [List.getD_eq_getElem?_getD, List.getElem?_eq_getElem (by simpa [letters64] using h)]; rfl
def val64 (l : List UInt8) : Nat → Nat
  | 0 => 0
  | k + 1 => val64 l k * 256 + (l.getD k 0).toNat
def quad64 (n have' : Nat) : Nat → List UInt8
  | 0 => []
  | k + 1 => quad64 n have' k ++ [if have' < k then 61 else L64 (n / 2 ^ (18 - 6 * k) % 64)]
def b64G : Nat → List UInt8 → List UInt8
  | 0, _ => []
  | f + 1, l => if l = [] then [] else quad64 (val64 l 3) (min 3 l.length) 4 ++ b64G f (l.drop 3)
def b64F (l : List UInt8) : List UInt8 := b64G l.length l
theorem b64G_fuel : ∀ (f g : Nat) (s : List UInt8), s.length ≤ f → s.length ≤ g → b64G f s = b64G g s
  | 0, g, s, hf, hg => by
    have : s = [] := List.eq_nil_of_length_eq_zero (by omega)
    subst this
    cases g <;> simp [b64G]
  | f + 1, 0, s, hf, hg => by
    have : s = [] := List.eq_nil_of_length_eq_zero (by omega)
    subst this
    simp [b64G]
  | f + 1, g + 1, s, hf, hg => by
    simp only [b64G]
    split
    · rfl
    · rw [b64G_fuel f g _ (by rw [List.length_drop]; omega) (by rw [List.length_drop]; omega)]
theorem b64F_nil : b64F [] = [] := rfl
theorem b64F_cons (l : List UInt8) (h : l ≠ []) : b64F l = quad64 (val64 l 3) (min 3 l.length) 4 ++ b64F (l.drop 3) := by
  have hl : 0 < l.length := List.length_pos_iff.2 h
  unfold b64F
  obtain ⟨n, hn⟩ : ∃ n, l.length = n + 1 := ⟨l.length - 1, by omega⟩
  conv => lhs; rw [hn]
  simp only [b64G, if_neg h]
  rw [b64G_fuel n (l.drop 3).length _ (by rw [List.length_drop]; omega) (Nat.le_refl _)]
theorem quad64_len (n h' : Nat) : ∀ k, (quad64 n h' k).length = k
  | 0 => rfl
  | k + 1 => by simp [quad64, quad64_len n h' k]
theorem b64F_len : ∀ (n : Nat) (l : List UInt8), l.length ≤ n → (b64F l).length ≤ 4 * l.length
  | 0, l, h => by
    have : l = [] := List.eq_nil_of_length_eq_zero (by omega)
    subst this; simp [b64F_nil]
  | n + 1, l, h => by
    by_cases hl : l = []
    · subst hl; simp [b64F_nil]
    · have h0 : 0 < l.length := List.length_pos_iff.2 hl
      rw [b64F_cons l hl, List.length_append, quad64_len]
      have := b64F_len n (l.drop 3) (by rw [List.length_drop]; omega)
      rw [List.length_drop] at this
      omega
theorem val64_lt (l : List UInt8) : ∀ k, val64 l k < 256 ^ k
  | 0 => by simp [val64]
  | k + 1 => by
    have := val64_lt l k
    have hb := (l.getD k 0).toNat_lt
    simp only [val64, Nat.pow_succ]
    omega
theorem ret31 (p : Option Addr) (c : Nat) (l : List UInt8) (w : World) (hr : ReadsB w p l) (hl : l.length ≤ 1099511627776) : Ret 31 [.slice p l.length c] w (.string (mkS (b64F l))) := by
  refine Ret.of (c31 p l.length c w _ ?_)
  unfold VC31
  refine ⟨fun m q n c i w1 => Keeps w w1 ∧ ∃ (k : Nat) (acc : List UInt8), i = k ∧ k ≤ l.length + 2 ∧ m = l.length + 3 - k ∧ Own w.heap.size w1 q n c acc ∧ acc.length ≤ 4 * k ∧ b64F l = acc ++ b64F (l.drop k),
    ⟨l.length + 3, Keeps.refl _, 0, [], rfl, by omega, rfl, Own.nil _ _, by simp, by simp⟩, ?_⟩
  rintro m q n c i w1 ⟨hk1, k, acc, rfl, hkl, rfl, ho1, hal, hb⟩
  refine ⟨fun h => ?_, fun h => ?_⟩
  · simp only [decide_eq_true_eq] at h
    have hlt : k < l.length := by omega
    have hne : l.drop k ≠ [] := by
      intro e; have := congrArg List.length e; simp at this; omega
    have hcons := b64F_cons (l.drop k) hne
    rw [List.drop_drop] at hcons
    refine ⟨fun m n' h' j w2 => w2 = w1 ∧ ∃ t : Nat, j = t ∧ t ≤ 3 ∧ m = 3 - t ∧ n' = (val64 (l.drop k) t : Nat) ∧ h' = (min t (l.drop k).length : Nat), ⟨3, rfl, 0, rfl, by omega, rfl, rfl, by simp⟩, ?_⟩
    rintro m n' h' j w2 ⟨rfl, t, rfl, ht3, rfl, rfl, rfl⟩
    have hv := val64_lt (l.drop k) t
    have hv3 : 256 ^ t ≤ 256 ^ 3 := Nat.pow_le_pow_right (by decide) ht3
    rw [List.length_drop]
    refine ⟨fun h3 => ?_, fun h3 => ?_⟩
    · simp only [decide_eq_true_eq] at h3
      refine ⟨by decide, _, i64w (n := (val64 (l.drop k) t : Int) * 2 ^ 8) (by omega) (by omega), _, i64w (n := (k : Int) + (t : Int)) (by omega) (by omega), fun h4 => ?_, fun h4 => ?_⟩
      · simp only [decide_eq_true_eq] at h4
        have hlt' : k + t < l.length := by omega
        have hget := List.getElem?_eq_getElem hlt'
        obtain ⟨a, ha, hcell⟩ := hr (k + t) _ hget
        have hb4 := (l[k + t]'hlt').toNat_lt
        refine ⟨_, i64w (n := (k : Int) + (t : Int)) (by omega) (by omega), ⟨by omega, by omega⟩, a, ha, ((l[k + t]'hlt').toNat : Int), ?_, _, i64w (by omega) (by omega), _,
          bits_join .i64 63 (by decide) (fun n h0 h1 => i64w (by omega) (by omega)) 8 _ _ (by omega) (by omega) (by omega) (by omega) (by omega) (by omega), _, i64w (by omega) (by omega), _, i64w (n := (t : Int) + 1) (by omega) (by omega), 3 - (t + 1), by omega, rfl, t + 1, by omega, by omega, rfl, ?_, ?_⟩
        · have e : ((k : Int) + (t : Int)).toNat * 1 = k + t := by omega
          rw [e]; exact hk1.cell hcell
        · have hg : (l.drop k).getD t 0 = l[k + t]'hlt' := by
            rw [List.getD_eq_getElem?_getD, List.getElem?_drop, hget]; rfl
          simp only [val64, hg]; omega
        · omega
      · simp only [decide_eq_false_iff_not] at h4
        refine ⟨_, i64w (n := (t : Int) + 1) (by omega) (by omega), 3 - (t + 1), by omega, rfl, t + 1, by omega, by omega, rfl, ?_, ?_⟩
        · have hg : (l.drop k).getD t 0 = 0 := by
            rw [List.getD_eq_getElem?_getD, List.getElem?_drop, List.getElem?_eq_none (by omega)]; rfl
          simp only [val64, hg]
          have : (0 : UInt8).toNat = 0 := rfl
          omega
        · omega
    · simp only [decide_eq_false_iff_not] at h3
      have ht : t = 3 := by omega
      subst ht
      have hmin : min 3 (l.length - k) = min 3 (l.drop k).length := by rw [List.length_drop]
      rw [← hmin] at hcons
      generalize hN : val64 (l.drop k) 3 = N at *
      generalize hH : min 3 (l.length - k) = H at *
      have hH3 : 1 ≤ H := by omega
      refine ⟨fun m q' n' c' j w3 => Keeps w w3 ∧ ∃ t : Nat, j = t ∧ t ≤ 4 ∧ m = 4 - t ∧ Own w.heap.size w3 q' n' c' (acc ++ quad64 N H t), ⟨4, hk1, 0, rfl, by omega, rfl, by simpa [quad64] using ho1⟩, ?_⟩
      rintro m q' n' c' j w3 ⟨hk3, t, rfl, ht4, rfl, ho3⟩
      have hql := quad64_len N H t
      refine ⟨fun h5 => ?_, fun h5 => ?_⟩
      · simp only [decide_eq_true_eq] at h5
        have fin : ∀ (b : UInt8), b = (if H < t then 61 else L64 (N / 2 ^ (18 - 6 * t) % 64)) → ∀ w4 cells, w4 = w3.alloc (.cells ⟨cells⟩ 5) → cells = bc [b] → 
            ∃ (x47 : Option Addr) (x47_n x47_c : Nat), ∃ w5, BuiltinOk prog .append #[23, 23] 23 [false, false] [.slice q' n' c', .slice (some (⟨w3.heap.size, 0, none⟩)) 1 1] w4 (.slice x47 x47_n x47_c) w5 ∧ 
                ∃ x41 : Int, IntKind.i64.wrap ((t : Int) + 1) = x41 ∧ 
                ∃ m_7, m_7 < 4 - t ∧ (Keeps w w5 ∧ ∃ t' : Nat, x41 = t' ∧ t' ≤ 4 ∧ m_7 = 4 - t' ∧ Own w.heap.size w5 x47 x47_n x47_c (acc ++ quad64 N H t')) := by
          intro b hbe w4 cells hw4 hcells
          obtain ⟨p2, n2, c2, w5, hrun, ho5, hk5, _⟩ := append_lit (bs := [b]) ho3 (Nat.le_refl _) hk3.size hk3 hw4 hcells rfl (by simp [hql]; omega) [false, false]
          refine ⟨p2, n2, c2, w5, hrun, _, i64w (by omega) (by omega), 4 - (t + 1), by omega, hk5, t + 1, by omega, by omega, rfl, ?_⟩
          simp only [quad64, ← hbe, ← List.append_assoc]
          exact ho5
        refine ⟨fun h6 w4 hw4 => ?_, fun h6 => ?_⟩
        · simp only [decide_eq_true_eq] at h6
          exact fin 61 (by rw [if_pos (by omega)]) w4 _ hw4 rfl
        · simp only [decide_eq_false_iff_not] at h6
          have hNlt : N < 16777216 := by omega
          have hsh : (18 - 6 * (t : Int)).toNat = 18 - 6 * t := by omega
          refine ⟨_, i64w (n := 6 * (t : Int)) (by omega) (by omega), _, i64w (n := 18 - 6 * (t : Int)) (by omega) (by omega), by omega, _, rfl, _, rfl, L64 (N / 2 ^ (18 - 6 * t) % 64), ?_, fun w6 hw6 => ?_⟩
          · have hm : min (18 - 6 * (t : Int)).toNat 64 = 18 - 6 * t := by omega
            rw [hm, fdiv_nat N (18 - 6 * t)]
            have hq : N / 2 ^ (18 - 6 * t) ≤ N := Nat.div_le_self _ _
            have := i64_and_nat (N / 2 ^ (18 - 6 * t)) 63 (by omega) (by decide)
            rw [show (63 : Nat) = 2 ^ 6 - 1 from rfl, Nat.and_two_pow_sub_one_eq_mod] at this
            rw [show (63 : Int) = ((2 ^ 6 - 1 : Nat) : Int) from rfl, this]
            exact ⟨by omega, L64_get _ (Nat.mod_lt _ (by decide))⟩
          · exact fin _ (by rw [if_neg (by omega)]) w6 _ hw6 rfl
      · simp only [decide_eq_false_iff_not] at h5
        have ht : t = 4 := by omega
        subst ht
        refine ⟨_, i64w (n := (k : Int) + 3) (by omega) (by omega), l.length + 3 - (k + 3), by omega, hk3, k + 3, acc ++ quad64 N H 4, by omega, by omega, rfl, ho3, ?_, ?_⟩
        · rw [List.length_append, hql]; omega
        · rw [hb, hcons, List.append_assoc]
  · simp only [decide_eq_false_iff_not] at h
    have hd : l.drop k = [] := List.drop_eq_nil_of_le (by omega)
    rw [hd, b64F_nil, List.append_nil] at hb
    exact ⟨_, w1, conv_string ho1.reads ho1.len, by rw [hb], hk1⟩
end Go.Proofs.Tryz
