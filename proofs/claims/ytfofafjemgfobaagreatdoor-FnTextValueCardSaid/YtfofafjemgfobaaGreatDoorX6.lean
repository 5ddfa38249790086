/- Parts of a proof, joined: VC, A5. -/
import Derived.Test.YtfofafjemgfobaaGreatDoorX4
import Derived.Test.YtfofafjemgfobaaGreatDoorX5
set_option linter.unusedVariables false
set_option maxRecDepth 100000
namespace Go.Proofs.Tryz
open Go.Vc
def VC7 (ap : Int) (aq : Bs) (ar : Bs) (xN : Int) (au : Int) (av : Int) (xB : Ptr) (aw ax : Nat) (ay : Ptr) (az ba : Nat) (w : World) (R : RR) : Prop :=
 ∀ w1, w1 = w.alloc (.cells ⟨[.int .i64 ap, .string (mkS aq), .string (mkS ar), .int .i64 xN, .int .u64 au, .int .u64 av, .slice xB aw ax, .slice ay az ba]⟩ 26) →
 ∀ w2, w2 = w1.alloc (.cells ⟨[.int .i64 0, .string (mkS []), .string (mkS []), .int .i64 0, .int .u64 0, .int .u64 0, .slice none 0 0, .slice none 0 0]⟩ 26) →
 ∃ x4 : Int, w2.cell? ⟨w.heap.size, 0, none⟩ = some (.int .i64 x4) ∧
 (decide (x4 = 3) = true →
 ∃ x6 : Int, ∃ aa ab : Bs, ∃ ac ad ae : Int, ∃ (ak : Ptr) (bb bc : Nat), ∃ (al : Ptr) (bd be : Nat), LoadsRow prog 26 w2 ⟨w.heap.size, 0, none⟩ [.int .i64 x6, .string (mkS aa), .string (mkS ab), .int .i64 ac, .int .u64 ad, .int .u64 ae, .slice ak bb bc, .slice al bd be] ∧
 ∃ w3, (Instr.storeAt 26 (.pointer (some ⟨w1.heap.size, 0, none⟩)) (.agg ⟨[.int .i64 x6, .string (mkS aa), .string (mkS ab), .int .i64 ac, .int .u64 ad, .int .u64 ae, .slice ak bb bc, .slice al bd be]⟩)).run prog w2 = .ok () w3 ∧
 ∃ r : List Value, LoadsRow prog 26 w3 ⟨w1.heap.size, 0, none⟩ r ∧ R (.agg ⟨r⟩) w3) ∧ (decide (x4 = 3) = false →
 ∃ x7 : Int, ∃ af ag : Bs, ∃ ah ai aj : Int, ∃ (am : Ptr) (bf bg : Nat), ∃ (ao : Ptr) (bh bi : Nat), LoadsRow prog 26 w2 ⟨w.heap.size, 0, none⟩ [.int .i64 x7, .string (mkS af), .string (mkS ag), .int .i64 ah, .int .u64 ai, .int .u64 aj, .slice am bf bg, .slice ao bh bi] ∧
 ∃ x9 : List Value, (Instr.buildSlice 24 1 ⟨[(0, .agg ⟨[.string (mkS [97]), .int .i64 x7, .string (mkS af), .string (mkS ag), .int .i64 ah, .int .u64 ai, .int .u64 aj, .slice am bf bg, .slice ao bh bi]⟩)]⟩).run prog w2 = .ok (.slice (some (⟨w2.heap.size, 0, none⟩)) 1 1) (w2.alloc (.cells ⟨x9⟩ 46)) ∧
 ∃ w5, (Instr.storeAt 26 (.pointer (some ⟨w1.heap.size, 0, none⟩)) (.agg ⟨[.int .i64 3, .string (mkS []), .string (mkS []), .int .i64 0, .int .u64 0, .int .u64 0, .slice none 0 0, .slice (some (⟨w2.heap.size, 0, none⟩)) 1 1]⟩)).run prog (w2.alloc (.cells ⟨x9⟩ 46)) = .ok () w5 ∧
 ∃ r_1 : List Value, LoadsRow prog 26 w5 ⟨w1.heap.size, 0, none⟩ r_1 ∧ R (.agg ⟨r_1⟩) w5)
def an7 : Ann :=
 .k .z
 (.k (.k (.t [.q, .s [.int .i64]])
 (.cond 1 2 (.k (.t [.s [.int .i64, .str, .str, .int .i64, .int .u64, .int .u64, .slice, .slice]])
 .l) .l))
 (.k (.t [.s [.int .i64, .str, .str, .int .i64, .int .u64, .int .u64, .slice, .slice]])
 .l))
theorem c7 (aa : Int) (ab : Bs) (ac : Bs) (xN : Int) (ad : Int) (ae : Int) (xB : Ptr) (af ag : Nat) (ah : Ptr) (ai aj : Nat) (w : World) (R : RR) (hvc : VC7 aa ab ac xN ad ae xB af ag ah ai aj w R) : CR 7 [.agg ⟨[.int .i64 aa, .string (mkS ab), .string (mkS ac), .int .i64 xN, .int .u64 ad, .int .u64 ae, .slice xB af ag, .slice ah ai aj]⟩] w R :=
 vcc (fn := f7) (ann := an7) hvc (by kernel_rfl) (by kernel_rfl)
def VC8 (ap : Int) (aq : Bs) (ar : Bs) (xN : Int) (au : Int) (av : Int) (xB : Ptr) (aw ax : Nat) (ay : Ptr) (az ba : Nat) (w : World) (R : RR) : Prop :=
 ∀ w1, w1 = w.alloc (.cells ⟨[.int .i64 ap, .string (mkS aq), .string (mkS ar), .int .i64 xN, .int .u64 au, .int .u64 av, .slice xB aw ax, .slice ay az ba]⟩ 26) →
 ∀ w2, w2 = w1.alloc (.cells ⟨[.int .i64 0]⟩ 3) →
 CanStore w2 ⟨w1.heap.size, 0, none⟩ (.int .i64 300) ∧ ∀ w3, w3 = w2.setCell ⟨w1.heap.size, 0, none⟩ (.int .i64 300) →
 ∃ x4 : Int, ∃ aa ab : Bs, ∃ ac ad ae : Int, ∃ (ak : Ptr) (bb bc : Nat), ∃ (al : Ptr) (bd be : Nat), LoadsRow prog 26 w3 ⟨w.heap.size, 0, none⟩ [.int .i64 x4, .string (mkS aa), .string (mkS ab), .int .i64 ac, .int .u64 ad, .int .u64 ae, .slice ak bb bc, .slice al bd be] ∧
 Calls prog 21 ⟨[.agg ⟨[.int .i64 x4, .string (mkS aa), .string (mkS ab), .int .i64 ac, .int .u64 ad, .int .u64 ae, .slice ak bb bc, .slice al bd be]⟩, .int .i64 12, .pointer (some (⟨w1.heap.size, 0, none⟩))]⟩ w3 fun e w4 => ∃ x5 : Bool, e = .returned (.bool x5) ∧
 (x5 = true →
 ∃ x7 : Int, ∃ af ag : Bs, ∃ ah ai aj : Int, ∃ (am : Ptr) (bf bg : Nat), ∃ (ao : Ptr) (bh bi : Nat), LoadsRow prog 26 w4 ⟨w.heap.size, 0, none⟩ [.int .i64 x7, .string (mkS af), .string (mkS ag), .int .i64 ah, .int .u64 ai, .int .u64 aj, .slice am bf bg, .slice ao bh bi] ∧
 Calls prog 22 ⟨[.agg ⟨[.int .i64 x7, .string (mkS af), .string (mkS ag), .int .i64 ah, .int .u64 ai, .int .u64 aj, .slice am bf bg, .slice ao bh bi]⟩]⟩ w4 fun e w5 => ∃ x8 : Bool, e = .returned (.bool x8) ∧
 R (.bool x8) w5) ∧ (x5 = false →
 R (.bool false) w4)
def an8 : Ann :=
 .k .z
 (.k .z
 (.k (.t [.s [.int .i64, .str, .str, .int .i64, .int .u64, .int .u64, .slice, .slice], .s [.bool], .q, .gs (.sh [.int .i64, .str, .str, .int .i64, .int .u64, .int .u64, .slice, .slice]) 1 2, .on 2 (.q) (.s [.bool])])
 .l))
theorem c8 (aa : Int) (ab : Bs) (ac : Bs) (xN : Int) (ad : Int) (ae : Int) (xB : Ptr) (af ag : Nat) (ah : Ptr) (ai aj : Nat) (w : World) (R : RR) (hvc : VC8 aa ab ac xN ad ae xB af ag ah ai aj w R) : CR 8 [.agg ⟨[.int .i64 aa, .string (mkS ab), .string (mkS ac), .int .i64 xN, .int .u64 ad, .int .u64 ae, .slice xB af ag, .slice ah ai aj]⟩] w R :=
 vcc (fn := f8) (ann := an8) hvc (by kernel_rfl) (by kernel_rfl)
def VC22 (ah : Int) (ai : Bs) (aj : Bs) (vN : Int) (ak : Int) (al : Int) (vB : Ptr) (am ao : Nat) (ap : Ptr) (aq ar : Nat) (w : World) (R : RR) : Prop :=
 ∀ w1, w1 = w.alloc (.cells ⟨[.int .i64 ah, .string (mkS ai), .string (mkS aj), .int .i64 vN, .int .u64 ak, .int .u64 al, .slice vB am ao, .slice ap aq ar]⟩ 26) →
 ∃ x3 : Int, ∃ aa ab : Bs, ∃ ac ad ae : Int, ∃ (af : Ptr) (au av : Nat), ∃ (ag : Ptr) (aw ax : Nat), LoadsRow prog 26 w1 ⟨w.heap.size, 0, none⟩ [.int .i64 x3, .string (mkS aa), .string (mkS ab), .int .i64 ac, .int .u64 ad, .int .u64 ae, .slice af au av, .slice ag aw ax] ∧
 Calls prog 60 ⟨[.agg ⟨[.int .i64 x3, .string (mkS aa), .string (mkS ab), .int .i64 ac, .int .u64 ad, .int .u64 ae, .slice af au av, .slice ag aw ax]⟩, .int .i64 200]⟩ w1 fun e w2 => ∃ x4 : Bool, e = .returned (.bool x4) ∧
 R (.bool x4) w2
def an22 : Ann :=
 .k .z
 (.k (.t [.s [.int .i64, .str, .str, .int .i64, .int .u64, .int .u64, .slice, .slice], .s [.bool]])
 .l)
theorem c22 (aa : Int) (ab : Bs) (ac : Bs) (vN : Int) (ad : Int) (ae : Int) (vB : Ptr) (af ag : Nat) (ah : Ptr) (ai aj : Nat) (w : World) (R : RR) (hvc : VC22 aa ab ac vN ad ae vB af ag ah ai aj w R) : CR 22 [.agg ⟨[.int .i64 aa, .string (mkS ab), .string (mkS ac), .int .i64 vN, .int .u64 ad, .int .u64 ae, .slice vB af ag, .slice ah ai aj]⟩] w R :=
 vcc (fn := f22) (ann := an22) hvc (by kernel_rfl) (by kernel_rfl)
def VC113 (aa : Int) (w : World) (R : RR) : Prop :=
 (decide (1 ≤ aa) = true →
 (decide (aa ≤ 19) = true →
 R (.bool true) w) ∧ (decide (aa ≤ 19) = false →
 (decide (aa = 255) = true →
 R (.bool true) w) ∧ (decide (aa = 255) = false →
 R (.bool (decide (aa = 127))) w))) ∧ (decide (1 ≤ aa) = false →
 (decide (aa = 255) = true →
 R (.bool true) w) ∧ (decide (aa = 255) = false →
 R (.bool (decide (aa = 127))) w))
def an113 : Ann :=
 .k .z
 (.k (.t [.q, .q, .q, .gs .n 1 2, .q, .q, .q, .on 2 (.q) (.gs .n 3 4), .q, .q, .q, .on 3 (.q) (.gs .n 5 6)])
 .l)
theorem c113 (aa : Int) (w : World) (R : RR) (hvc : VC113 aa w R) : CR 113 [.int .i64 aa] w R :=
 vcc (fn := f113) (ann := an113) hvc (by kernel_rfl) (by kernel_rfl)
def VC114 (al : Int) (am : Bs) (ao : Bs) (vN : Int) (ap : Int) (aq : Int) (vB : Ptr) (ar au : Nat) (av : Ptr) (aw ax : Nat) (w : World) (R : RR) : Prop :=
 ∀ w1, w1 = w.alloc (.cells ⟨[.int .i64 al, .string (mkS am), .string (mkS ao), .int .i64 vN, .int .u64 ap, .int .u64 aq, .slice vB ar au, .slice av aw ax]⟩ 26) →
 ∀ w2, w2 = w1.alloc (.cells ⟨[.int .i64 0, .string (mkS []), .string (mkS []), .int .i64 0, .int .u64 0, .int .u64 0, .slice none 0 0, .slice none 0 0]⟩ 26) →
 ∀ Kx : World → Prop, (∀ w3,
 (∃ x47 : Int, ∃ aa ab : Bs, ∃ ac ad ae : Int, ∃ (aj : Ptr) (ay az : Nat), ∃ (ak : Ptr) (ba bb : Nat), LoadsRow prog 26 w3 ⟨w.heap.size, 0, none⟩ [.int .i64 x47, .string (mkS aa), .string (mkS ab), .int .i64 ac, .int .u64 ad, .int .u64 ae, .slice aj ay az, .slice ak ba bb] ∧
 ∃ w4, (Instr.storeAt 26 (.pointer (some ⟨w1.heap.size, 0, none⟩)) (.agg ⟨[.int .i64 x47, .string (mkS aa), .string (mkS ab), .int .i64 ac, .int .u64 ad, .int .u64 ae, .slice aj ay az, .slice ak ba bb]⟩)).run prog w3 = .ok () w4 ∧
 ∃ r : List Value, LoadsRow prog 26 w4 ⟨w1.heap.size, 0, none⟩ r ∧ R (.agg ⟨r⟩) w4) → Kx w3) →
 ∃ x4 : Int, w2.cell? ⟨w.heap.size, 0, none⟩ = some (.int .i64 x4) ∧
 ∀ af : Bool → World → Prop, (∀ x5 : Bool, ∀ w5,
 ((x5 = true →
 CanStore w5 ⟨w.heap.size, 4, none⟩ (.int .u64 0) ∧ ∀ w6, w6 = w5.setCell ⟨w.heap.size, 4, none⟩ (.int .u64 0) →
 Kx w6) ∧ (x5 = false →
 ∀ ag : Bool → World → Prop, (∀ x9 : Bool, ∀ w7,
 ((x9 = true →
 CanStore w7 ⟨w.heap.size, 1, none⟩ (.string (mkS [])) ∧ ∀ w8, w8 = w7.setCell ⟨w.heap.size, 1, none⟩ (.string (mkS [])) →
 Kx w8) ∧ (x9 = false →
 ∀ ah : Bool → World → Prop, (∀ x14 : Bool, ∀ w9,
 ((x14 = true →
 CanStore w9 ⟨w.heap.size, 7, none⟩ (.slice none 0 0) ∧ ∀ w10, w10 = w9.setCell ⟨w.heap.size, 7, none⟩ (.slice none 0 0) →
 Kx w10) ∧ (x14 = false →
 (decide (x4 = 5) = true →
 CanStore w9 ⟨w.heap.size, 3, none⟩ (.int .i64 0) ∧ ∀ w11, w11 = w9.setCell ⟨w.heap.size, 3, none⟩ (.int .i64 0) →
 CanStore w11 ⟨w.heap.size, 6, none⟩ (.slice none 0 0) ∧ ∀ w12, w12 = w11.setCell ⟨w.heap.size, 6, none⟩ (.slice none 0 0) →
 Kx w12) ∧ (decide (x4 = 5) = false →
 (decide (x4 = 7) = true →
 CanStore w9 ⟨w.heap.size, 6, none⟩ (.slice none 0 0) ∧ ∀ w13, w13 = w9.setCell ⟨w.heap.size, 6, none⟩ (.slice none 0 0) →
 Kx w13) ∧ (decide (x4 = 7) = false →
 ∀ ai : Bool → World → Prop, (∀ x25 : Bool, ∀ w14,
 ((x25 = true →
 CanStore w14 ⟨w.heap.size, 3, none⟩ (.int .i64 0) ∧ ∀ w15, w15 = w14.setCell ⟨w.heap.size, 3, none⟩ (.int .i64 0) →
 Kx w15) ∧ (x25 = false →
 (decide (x4 = 11) = true →
 CanStore w14 ⟨w.heap.size, 1, none⟩ (.string (mkS [])) ∧ ∀ w16, w16 = w14.setCell ⟨w.heap.size, 1, none⟩ (.string (mkS [])) →
 CanStore w16 ⟨w.heap.size, 2, none⟩ (.string (mkS [])) ∧ ∀ w17, w17 = w16.setCell ⟨w.heap.size, 2, none⟩ (.string (mkS [])) →
 Kx w17) ∧ (decide (x4 = 11) = false →
 (decide (x4 = 12) = true →
 CanStore w14 ⟨w.heap.size, 1, none⟩ (.string (mkS [])) ∧ ∀ w18, w18 = w14.setCell ⟨w.heap.size, 1, none⟩ (.string (mkS [])) →
 CanStore w18 ⟨w.heap.size, 6, none⟩ (.slice none 0 0) ∧ ∀ w19, w19 = w18.setCell ⟨w.heap.size, 6, none⟩ (.slice none 0 0) →
 Kx w19) ∧ (decide (x4 = 12) = false →
 (decide (x4 = 15) = true →
 CanStore w14 ⟨w.heap.size, 1, none⟩ (.string (mkS [])) ∧ ∀ w20, w20 = w14.setCell ⟨w.heap.size, 1, none⟩ (.string (mkS [])) →
 CanStore w20 ⟨w.heap.size, 7, none⟩ (.slice none 0 0) ∧ ∀ w21, w21 = w20.setCell ⟨w.heap.size, 7, none⟩ (.slice none 0 0) →
 Kx w21) ∧ (decide (x4 = 15) = false →
 (decide (x4 = 19) = true →
 CanStore w14 ⟨w.heap.size, 4, none⟩ (.int .u64 0) ∧ ∀ w22, w22 = w14.setCell ⟨w.heap.size, 4, none⟩ (.int .u64 0) →
 CanStore w22 ⟨w.heap.size, 5, none⟩ (.int .u64 0) ∧ ∀ w23, w23 = w22.setCell ⟨w.heap.size, 5, none⟩ (.int .u64 0) →
 Kx w23) ∧ (decide (x4 = 19) = false →
 Kx w14)))))) → ai x25 w14) →
 (decide (x4 = 8) = true →
 ai (decide (x4 = 8)) w9) ∧ (decide (x4 = 8) = false →
 (decide (x4 = 9) = true →
 ai (decide (x4 = 9)) w9) ∧ (decide (x4 = 9) = false →
 (decide (x4 = 16) = true →
 ai (decide (x4 = 16)) w9) ∧ (decide (x4 = 16) = false →
 ai (decide (x4 = 18)) w9))))))) → ah x14 w9) →
 (decide (x4 = 3) = true →
 ah (decide (x4 = 3)) w7) ∧ (decide (x4 = 3) = false →
 ah (decide (x4 = 4)) w7))) → ag x9 w7) →
 (decide (x4 = 2) = true →
 ag (decide (x4 = 2)) w5) ∧ (decide (x4 = 2) = false →
 (decide (x4 = 13) = true →
 ag (decide (x4 = 13)) w5) ∧ (decide (x4 = 13) = false →
 ag (decide (x4 = 14)) w5)))) → af x5 w5) →
 (decide (x4 = 1) = true →
 af (decide (x4 = 1)) w2) ∧ (decide (x4 = 1) = false →
 af (decide (x4 = 17)) w2)
def an114 : Ann :=
 .k .z
 (.cut [] [1, 2] (.k (.t [.q, .s [.int .i64]])
 (.block (.cut [(5, .bool)] [1, 2, 4] (.k .z
 (.cond 33 34 .l .z))
 (.cond 1 2 .z (.cut [(9, .bool)] [1, 2, 4] (.k .z
 (.cond 29 30 .l (.k .z
 (.cond 31 32 .l .z))))
 (.cond 3 4 .z (.cut [(14, .bool)] [1, 2, 4] (.k .z
 (.cond 27 28 .l .z))
 (.cond 5 6 .z (.k .z
 (.cond 7 8 .z (.k .z
 (.cond 9 10 .z (.cut [(25, .bool)] [1, 2, 4] (.k .z
 (.cond 21 22 .l (.k .z
 (.cond 23 24 .l (.k .z
 (.cond 25 26 .l .z))))))
 (.cond 11 12 .z (.k .z
 (.cond 13 14 .z (.k .z
 (.cond 15 16 .z (.k .z
 (.cond 17 18 .z (.k .z
 (.cond 19 20 .z .l))))))))))))))))))))))
 (.k (.t [.s [.int .i64, .str, .str, .int .i64, .int .u64, .int .u64, .slice, .slice]])
 .l))
theorem c114 (aa : Int) (ab : Bs) (ac : Bs) (vN : Int) (ad : Int) (ae : Int) (vB : Ptr) (af ag : Nat) (ah : Ptr) (ai aj : Nat) (w : World) (R : RR) (hvc : VC114 aa ab ac vN ad ae vB af ag ah ai aj w R) : CR 114 [.agg ⟨[.int .i64 aa, .string (mkS ab), .string (mkS ac), .int .i64 vN, .int .u64 ad, .int .u64 ae, .slice vB af ag, .slice ah ai aj]⟩] w R :=
 vcc (fn := f114) (ann := an114) hvc (by kernel_rfl) (by kernel_rfl)
def VC115 (s : Bs) (w : World) (R : RR) : Prop :=
 ∃ Ix : Nat → Int → World → Prop, (∃ m_2, Ix m_2 0 w) ∧
 ∀ m, ∀ i : Int, ∀ w1, Ix m i w1 →
 (decide (i < (s.length : Int)) = true →
 ∃ x12 : UInt8, ((0 : Int) ≤ i ∧ s[i.toNat]? = some x12) ∧
 (decide ((x12.toNat : Int) = 0) = true →
 R (.bool false) w1) ∧ (decide ((x12.toNat : Int) = 0) = false →
 ∃ x9 : Int, IntKind.i64.wrap (i + 1) = x9 ∧
 ∃ m_1, m_1 < m ∧ Ix m_1 x9 w1)) ∧ (decide (i < (s.length : Int)) = false →
 R (.bool true) w1)
def an115 : Ann :=
 .k .z
 (.k (.k .z
 (.block (.loop [(3, .int .i64)] [0] (.k (.k .z
 (.cond 1 2 .l .l))
 (.k (.block (.k .z
 (.cond 3 4 .zl .l)))
 .z)))))
 .zl)
theorem c115 (s : Bs) (w : World) (R : RR) (hvc : VC115 s w R) : CR 115 [.string (mkS s)] w R :=
 vcc (fn := f115) (ann := an115) hvc (by kernel_rfl) (by kernel_rfl)
def VC116 (nx : Int) (w : World) (R : RR) : Prop :=
 (decide (nx < 10) = true →
 ∃ x6 : Int, IntKind.i64.wrap (48 + nx) = x6 ∧
 ∃ x7 : Int, IntKind.u8.wrap x6 = x7 ∧
 ∀ w1, w1 = w.alloc (.cells ⟨[.int .u8 x7]⟩ 5) →
 ∃ x9 : Bs, ∃ w2, (convert 23 9 (.slice (some (⟨w.heap.size, 0, none⟩)) 1 1)).run prog w1 = .ok (.string (mkS x9)) w2 ∧
 R (.string (mkS x9)) w2) ∧ (decide (nx < 10) = false →
 ∃ f : List (Addr × Value), Kept w f ∧
 (10 : Int) ≠ 0 ∧ ∃ x11 : Int, IntKind.i64.wrap (Int.tdiv nx 10) = x11 ∧
 (10 : Int) ≠ 0 ∧ ∃ x14 : Int, Int.tmod nx 10 = x14 ∧
 ∃ x15 : Int, IntKind.i64.wrap (48 + x14) = x15 ∧
 ∃ x16 : Int, IntKind.u8.wrap x15 = x16 ∧
 (Calls prog 116 ⟨[.int .i64 x11]⟩ w.drew fun e w3 => ∃ x12 : Bs, e = .returned (.string (mkS x12)) ∧
 ∀ w4, w4 = w3.alloc (.cells ⟨[.int .u8 x16]⟩ 5) →
 ∃ x18 : Bs, ∃ w5, (convert 23 9 (.slice (some (⟨w3.heap.size, 0, none⟩)) 1 1)).run prog w4 = .ok (.string (mkS x18)) w5 ∧
 x12.length + x18.length ≤ 9223372036854775807 ∧
 R (.string (mkS (x12 ++ x18))) w5) ∧ (∀ w6, w6 = w.drew.alloc (.cells ⟨[.int .u8 x16]⟩ 5) →
 (Calls prog 116 ⟨[.int .i64 x11]⟩ w6 fun e w7 => ∃ aa : Bs, e = .returned (.string (mkS aa)) ∧
 ∃ ab : Bs, ∃ w8, (convert 23 9 (.slice (some (⟨w.drew.heap.size, 0, none⟩)) 1 1)).run prog w7 = .ok (.string (mkS ab)) w8 ∧
 aa.length + ab.length ≤ 9223372036854775807 ∧
 R (.string (mkS (aa ++ ab))) w8) ∧ (∃ ac : Bs, ∃ w9, (convert 23 9 (.slice (some (⟨w.drew.heap.size, 0, none⟩)) 1 1)).run prog w6 = .ok (.string (mkS ac)) w9 ∧
 Calls prog 116 ⟨[.int .i64 x11]⟩ w9 fun e w10 => ∃ ad : Bs, e = .returned (.string (mkS ad)) ∧
 ad.length + ac.length ≤ 9223372036854775807 ∧
 R (.string (mkS (ad ++ ac))) w10)))
def an116 : Ann :=
 .k .z
 (.k (.k .z
 (.cond 1 2 (.k (.t [.q, .q, .q, .q, .s [.str]])
 .l) .l))
 (.k (.reg (.held [2, 7, 8] (.take 0 (.q) (.take 1 (.q) (.take 3 (.q) (.take 4 (.q) (.take 5 (.q) (.take 6 (.q) (.run 2 (.s [.str]) (.run 7 (.q) (.run 8 (.s [.str]) (.take 9 (.q) (.take 10 (.q) .done)) .done) .done) (.run 7 (.q) (.run 2 (.s [.str]) (.run 8 (.s [.str]) (.take 9 (.q) (.take 10 (.q) .done)) .done) (.run 8 (.s [.str]) (.run 2 (.s [.str]) (.take 9 (.q) (.take 10 (.q) .done)) .done) .done)) .done))))))))))
 .l))
theorem c116 (nx : Int) (w : World) (R : RR) (hvc : VC116 nx w R) : CR 116 [.int .i64 nx] w R :=
 vcc (fn := f116) (ann := an116) hvc (by kernel_rfl) (by kernel_rfl)
def VC60 (ca : Int) (cb : Bs) (cc : Bs) (vN : Int) (cd : Int) (ce : Int) (vB : Ptr) (cf cg : Nat) (ch : Ptr) (ci cj : Nat) (ck : Int) (w : World) (R : RR) : Prop :=
 ∀ w1, w1 = w.alloc (.cells ⟨[.int .i64 ca, .string (mkS cb), .string (mkS cc), .int .i64 vN, .int .u64 cd, .int .u64 ce, .slice vB cf cg, .slice ch ci cj]⟩ 26) →
 ∃ x9 : Int, w1.cell? ⟨w.heap.size, 0, none⟩ = some (.int .i64 x9) ∧
 Calls prog 113 ⟨[.int .i64 x9]⟩ w1 fun e w2 => ∃ x10 : Bool, e = .returned (.bool x10) ∧
 ((!x10) = true →
 R (.bool false) w2) ∧ ((!x10) = false →
 (decide (ck = 0) = true →
 R (.bool false) w2) ∧ (decide (ck = 0) = false →
 ∃ x16 : Int, ∃ aa ab : Bs, ∃ ac ad ae : Int, ∃ (bp : Ptr) (cl cm : Nat), ∃ (bq : Ptr) (cn co : Nat), LoadsRow prog 26 w2 ⟨w.heap.size, 0, none⟩ [.int .i64 x16, .string (mkS aa), .string (mkS ab), .int .i64 ac, .int .u64 ad, .int .u64 ae, .slice bp cl cm, .slice bq cn co] ∧
 Calls prog 114 ⟨[.agg ⟨[.int .i64 x16, .string (mkS aa), .string (mkS ab), .int .i64 ac, .int .u64 ad, .int .u64 ae, .slice bp cl cm, .slice bq cn co]⟩]⟩ w2 fun e w3 => ∃ x17 : List Value, e = .returned (.agg ⟨x17⟩) ∧
 ∀ w4, w4 = w3.alloc (.cells ⟨[.int .i64 0, .string (mkS []), .string (mkS []), .int .i64 0, .int .u64 0, .int .u64 0, .slice none 0 0, .slice none 0 0]⟩ 26) →
 ∃ w5, (Instr.storeAt 26 (.pointer (some ⟨w3.heap.size, 0, none⟩)) (.agg ⟨x17⟩)).run prog w4 = .ok () w5 ∧
 ∃ x19 : Bs, w5.cell? ⟨w3.heap.size, 1, none⟩ = some (.string (mkS x19)) ∧
 ((!decide (x19 = [])) = true →
 R (.bool false) w5) ∧ ((!decide (x19 = [])) = false →
 ∃ x23 : Bs, w5.cell? ⟨w3.heap.size, 2, none⟩ = some (.string (mkS x23)) ∧
 ((!decide (x23 = [])) = true →
 R (.bool false) w5) ∧ ((!decide (x23 = [])) = false →
 ∃ x28 : Int, w5.cell? ⟨w3.heap.size, 3, none⟩ = some (.int .i64 x28) ∧
 ((!decide (x28 = 0)) = true →
 R (.bool false) w5) ∧ ((!decide (x28 = 0)) = false →
 ∃ x33 : Int, w5.cell? ⟨w3.heap.size, 4, none⟩ = some (.int .u64 x33) ∧
 ((!decide (x33 = 0)) = true →
 R (.bool false) w5) ∧ ((!decide (x33 = 0)) = false →
 ∃ x38 : Int, w5.cell? ⟨w3.heap.size, 5, none⟩ = some (.int .u64 x38) ∧
 ((!decide (x38 = 0)) = true →
 R (.bool false) w5) ∧ ((!decide (x38 = 0)) = false →
 ∃ (x43 : Ptr) (cp cq : Nat), w5.cell? ⟨w3.heap.size, 6, none⟩ = some (.slice x43 cp cq) ∧
 ((!decide ((cp : Int) = 0)) = true →
 R (.bool false) w5) ∧ ((!decide ((cp : Int) = 0)) = false →
 ∃ (x49 : Ptr) (cr cs : Nat), w5.cell? ⟨w3.heap.size, 7, none⟩ = some (.slice x49 cr cs) ∧
 ((!decide ((cr : Int) = 0)) = true →
 R (.bool false) w5) ∧ ((!decide ((cr : Int) = 0)) = false →
 ∀ Kx : World → Prop, (∀ w6,
 (∃ Ix : Nat → Int → World → Prop, (∃ m_2, Ix m_2 0 w6) ∧
 ∀ m, ∀ i : Int, ∀ w7, Ix m i w7 →
 ∃ (br : Ptr) (ct cu : Nat), w7.cell? ⟨w.heap.size, 7, none⟩ = some (.slice br ct cu) ∧
 (decide (i < (ct : Int)) = true →
 ∃ (bs : Ptr) (cv cw : Nat), w7.cell? ⟨w.heap.size, 7, none⟩ = some (.slice bs cv cw) ∧
 ((0 : Int) ≤ i ∧ i < (cv : Int)) ∧ ∃ af : Addr, bs = some af ∧
 ∃ ag : Bs, ∃ ah : Int, ∃ ai aj : Bs, ∃ ak al am : Int, ∃ (bt : Ptr) (cx cy : Nat), ∃ (bu : Ptr) (cz da : Nat), LoadsRow prog 46 w7 (af.add (i.toNat * 9)) [.string (mkS ag), .int .i64 ah, .string (mkS ai), .string (mkS aj), .int .i64 ak, .int .u64 al, .int .u64 am, .slice bt cx cy, .slice bu cz da] ∧
 ∀ w8, w8 = w7.alloc (.cells ⟨[.string (mkS []), .int .i64 0, .string (mkS []), .string (mkS []), .int .i64 0, .int .u64 0, .int .u64 0, .slice none 0 0, .slice none 0 0]⟩ 46) →
 ∃ w9, (Instr.storeAt 46 (.pointer (some ⟨w7.heap.size, 0, none⟩)) (.agg ⟨[.string (mkS ag), .int .i64 ah, .string (mkS ai), .string (mkS aj), .int .i64 ak, .int .u64 al, .int .u64 am, .slice bt cx cy, .slice bu cz da]⟩)).run prog w8 = .ok () w9 ∧
 ∃ f : List (Addr × Value), Kept w9 f ∧
 ∃ ao : Bs, (⟨w7.heap.size, 0, none⟩, .string (mkS ao)) ∈ f ∧
 Calls prog 115 ⟨[.string (mkS ao)]⟩ w9.drew fun e w10 => ∃ ap : Bool, e = .returned (.bool ap) ∧
 Kept w10 f ∧ ((!ap) = true →
 Kept w10 f ∧ R (.bool false) w10) ∧ ((!ap) = false →
 ∃ aq : Int, (⟨w.heap.size, 0, none⟩, .int .i64 aq) ∈ f ∧
 (decide (aq = 4) = true →
 ∃ ar : Bs, (⟨w7.heap.size, 0, none⟩, .string (mkS ar)) ∈ f ∧
 Calls prog 116 ⟨[.int .i64 i]⟩ w10 fun e w11 => ∃ au : Bs, e = .returned (.string (mkS au)) ∧
 Kept w11 f ∧ ((!decide (ar = au)) = true →
 R (.bool false) w11) ∧ ((!decide (ar = au)) = false →
 ∃ av : Int, ∃ aw ax : Bs, ∃ ay az ba : Int, ∃ (bv : Ptr) (db dc : Nat), ∃ (bw : Ptr) (dd de : Nat), (cellsOf' prog 26 = some ([.int .i64 av, .string (mkS aw), .string (mkS ax), .int .i64 ay, .int .u64 az, .int .u64 ba, .slice bv db dc, .slice bw dd de] : List Value).length ∧ ∀ i v, ([.int .i64 av, .string (mkS aw), .string (mkS ax), .int .i64 ay, .int .u64 az, .int .u64 ba, .slice bv db dc, .slice bw dd de] : List Value)[i]? = some v → ((⟨w7.heap.size, 1, none⟩ : Addr).add i, v) ∈ f) ∧
 ∃ bb : Int, IntKind.i64.wrap (ck - 1) = bb ∧
 Calls prog 60 ⟨[.agg ⟨[.int .i64 av, .string (mkS aw), .string (mkS ax), .int .i64 ay, .int .u64 az, .int .u64 ba, .slice bv db dc, .slice bw dd de]⟩, .int .i64 bb]⟩ w11 fun e w12 => ∃ bc : Bool, e = .returned (.bool bc) ∧
 ((!bc) = true →
 R (.bool false) w12) ∧ ((!bc) = false →
 ∃ bd : Int, IntKind.i64.wrap (i + 1) = bd ∧
 ∃ m_1, m_1 < m ∧ Ix m_1 bd w12))) ∧ (decide (aq = 4) = false →
 Kept w10 f ∧ ∃ be : Int, ∃ bf bg : Bs, ∃ bh bi bj : Int, ∃ (bx : Ptr) (df dg : Nat), ∃ (bz : Ptr) (dh di : Nat), (cellsOf' prog 26 = some ([.int .i64 be, .string (mkS bf), .string (mkS bg), .int .i64 bh, .int .u64 bi, .int .u64 bj, .slice bx df dg, .slice bz dh di] : List Value).length ∧ ∀ i v, ([.int .i64 be, .string (mkS bf), .string (mkS bg), .int .i64 bh, .int .u64 bi, .int .u64 bj, .slice bx df dg, .slice bz dh di] : List Value)[i]? = some v → ((⟨w7.heap.size, 1, none⟩ : Addr).add i, v) ∈ f) ∧
 ∃ bk : Int, IntKind.i64.wrap (ck - 1) = bk ∧
 Calls prog 60 ⟨[.agg ⟨[.int .i64 be, .string (mkS bf), .string (mkS bg), .int .i64 bh, .int .u64 bi, .int .u64 bj, .slice bx df dg, .slice bz dh di]⟩, .int .i64 bk]⟩ w10 fun e w13 => ∃ bl : Bool, e = .returned (.bool bl) ∧
 ((!bl) = true →
 R (.bool false) w13) ∧ ((!bl) = false →
 ∃ bm : Int, IntKind.i64.wrap (i + 1) = bm ∧
 ∃ m_1, m_1 < m ∧ Ix m_1 bm w13)))) ∧ (decide (i < (ct : Int)) = false →
 R (.bool true) w7)) → Kx w6) →
 ∃ x54 : Int, w5.cell? ⟨w.heap.size, 0, none⟩ = some (.int .i64 x54) ∧
 (decide (x54 = 5) = true →
 ∃ x58 : Int, w5.cell? ⟨w.heap.size, 3, none⟩ = some (.int .i64 x58) ∧
 (decide (0 ≤ x58) = true →
 ∃ x62 : Int, w5.cell? ⟨w.heap.size, 3, none⟩ = some (.int .i64 x62) ∧
 R (.bool (decide (x62 ≤ 255))) w5) ∧ (decide (0 ≤ x58) = false →
 R (.bool false) w5)) ∧ (decide (x54 = 5) = false →
 ∀ bn : Bool → World → Prop, (∀ x65 : Bool, ∀ w14,
 ((x65 = true →
 ∃ (x69 : Ptr) (dj dk : Nat), w14.cell? ⟨w.heap.size, 6, none⟩ = some (.slice x69 dj dk) ∧
 R (.bool (decide ((dj : Int) = 12))) w14) ∧ (x65 = false →
 (decide (x54 = 8) = true →
 ∃ x75 : Int, w14.cell? ⟨w.heap.size, 3, none⟩ = some (.int .i64 x75) ∧
 (decide (x75 = 0) = true →
 R (.bool true) w14) ∧ (decide (x75 = 0) = false →
 ∃ x79 : Int, w14.cell? ⟨w.heap.size, 3, none⟩ = some (.int .i64 x79) ∧
 R (.bool (decide (x79 = 1))) w14)) ∧ (decide (x54 = 8) = false →
 (decide (x54 = 16) = true →
 ∃ x85 : Int, w14.cell? ⟨w.heap.size, 3, none⟩ = some (.int .i64 x85) ∧
 (decide ((-2147483648) ≤ x85) = true →
 ∃ x89 : Int, w14.cell? ⟨w.heap.size, 3, none⟩ = some (.int .i64 x89) ∧
 R (.bool (decide (x89 < 2147483648))) w14) ∧ (decide ((-2147483648) ≤ x85) = false →
 R (.bool false) w14)) ∧ (decide (x54 = 16) = false →
 (decide (x54 = 11) = true →
 ∃ x95 : Bs, w14.cell? ⟨w.heap.size, 1, none⟩ = some (.string (mkS x95)) ∧
 Calls prog 115 ⟨[.string (mkS x95)]⟩ w14 fun e w15 => ∃ x96 : Bool, e = .returned (.bool x96) ∧
 (x96 = true →
 ∃ x99 : Bs, w15.cell? ⟨w.heap.size, 2, none⟩ = some (.string (mkS x99)) ∧
 Calls prog 115 ⟨[.string (mkS x99)]⟩ w15 fun e w16 => ∃ bo : Bool, e = .returned (.bool bo) ∧
 R (.bool bo) w16) ∧ (x96 = false →
 R (.bool false) w15)) ∧ (decide (x54 = 11) = false →
 Kx w14))))) → bn x65 w14) →
 (decide (x54 = 7) = true →
 bn (decide (x54 = 7)) w5) ∧ (decide (x54 = 7) = false →
 bn (decide (x54 = 12)) w5)))))))))))
def an60 : Ann :=
 .k .z
 (.k (.k (.t [.q, .s [.int .i64], .s [.bool], .q, .q, .gs .n 1 2])
 (.on 2 (.cond 3 4 .zl .l) (.yes .zl)))
 (.k (.t [.s [.int .i64, .str, .str, .int .i64, .int .u64, .int .u64, .slice, .slice], .s [.agg]])
 (.k (.k (.t [.q, .s [.str], .q, .q, .gs .n 5 6, .on 6 (.s [.str]) (.q), .q, .q, .q, .on 6 (.gs .n 7 8) (.q), .on 8 (.s [.int .i64]) (.q), .q, .q, .q, .on 8 (.gs .n 9 10) (.q), .on 10 (.s [.int .u64]) (.q), .q, .q, .q, .on 10 (.gs .n 11 12) (.q), .on 12 (.s [.int .u64]) (.q), .q, .q, .q, .on 12 (.gs .n 13 14) (.q), .on 14 (.s [.slice]) (.q), .q, .q, .q, .q, .on 14 (.gs .n 15 16) (.q), .on 16 (.s [.slice]) (.q)])
 (.on 16 (.cond 17 18 .zl .l) (.yes .zl)))
 (.cut [] [1, 2] (.k (.t [.q, .s [.int .i64]])
 (.block (.k .z
 (.cond 29 30 (.k (.t [.q, .s [.int .i64], .q, .q, .gs .n 31 32, .on 32 (.q) (.s [.int .i64])])
 .l) (.cut [(65, .bool)] [1, 2, 54] (.k .z
 (.cond 47 48 .l .z))
 (.cond 33 34 (.k (.t [.q, .s [.slice]])
 .l) (.k .z
 (.cond 35 36 (.k (.t [.q, .s [.int .i64], .q, .q, .gs .n 37 38, .on 38 (.s [.int .i64]) (.q)])
 .l) (.k .z
 (.cond 39 40 (.k (.t [.q, .s [.int .i64], .q, .q, .gs .n 41 42, .on 42 (.q) (.s [.int .i64])])
 .l) (.k .z
 (.cond 43 44 (.k (.t [.q, .s [.str], .s [.bool], .q, .gs .n 45 46, .on 46 (.q) (.s [.str]), .on 46 (.q) (.s [.bool])])
 .l) .l))))))))))))
 (.k (.k .z
 (.block (.loop [(6, .int .i64)] [1, 2] (.k (.k (.t [.q, .q, .s [.slice]])
 (.cond 19 20 .l .l))
 (.k (.block (.k (.t [.q, .s [.slice], .q, .s [], .s [.str, .int .i64, .str, .str, .int .i64, .int .u64, .int .u64, .slice, .slice]])
 (.k (.reg (.held [21] (.take 0 (.q) (.take 1 (.s [.str]) (.run 2 (.s [.bool]) (.take 3 (.q) (.take 4 (.q) (.take 5 (.gs .n 21 22) (.take 6 (.on 22 (.s [.int .i64]) (.q)) (.take 7 (.q) (.take 8 (.q) (.take 9 (.on 22 (.gs .n 23 24) (.q)) (.take 10 (.on 23 (.s [.str]) (.q)) (.take 11 (.q) (.run 12 (.on 23 (.s [.str]) (.q)) (.take 13 (.q) (.take 14 (.q) (.take 15 (.q) (.take 16 (.q) (.take 17 (.on 23 (.gs .n 25 26) (.q)) (.take 18 (.on 24 (.s [.int .i64, .str, .str, .int .i64, .int .u64, .int .u64, .slice, .slice]) (.on 26 (.s [.int .i64, .str, .str, .int .i64, .int .u64, .int .u64, .slice, .slice]) (.q))) (.take 19 (.q) (.take 20 (.q) (.run 21 (.on 24 (.s [.bool]) (.on 26 (.s [.bool]) (.q))) (.take 22 (.q) (.take 23 (.q) .done)) .done))))))))) .done)))))))))) .done)))))
 (.on 24 (.cond 27 28 .zl .l) (.on 26 (.cond 27 28 .zl .l) (.yes .zl))))))
 .z)))))
 .zl)))))
theorem c60 (aa : Int) (ab : Bs) (ac : Bs) (vN : Int) (ad : Int) (ae : Int) (vB : Ptr) (af ag : Nat) (ah : Ptr) (ai aj : Nat) (ak : Int) (w : World) (R : RR) (hvc : VC60 aa ab ac vN ad ae vB af ag ah ai aj ak w R) : CR 60 [.agg ⟨[.int .i64 aa, .string (mkS ab), .string (mkS ac), .int .i64 vN, .int .u64 ad, .int .u64 ae, .slice vB af ag, .slice ah ai aj]⟩, .int .i64 ak] w R :=
 vcc (fn := f60) (ann := an60) hvc (by kernel_rfl) (by kernel_rfl)
def VC21 (bw : Int) (bx : Bs) (bz : Bs) (xN : Int) (ca : Int) (cb : Int) (xB : Ptr) (cc cd : Nat) (ce : Ptr) (cf cg : Nat) (ch : Int) (left : Addr) (w : World) (R : RR) : Prop :=
 ∀ w1, w1 = w.alloc (.cells ⟨[.int .i64 bw, .string (mkS bx), .string (mkS bz), .int .i64 xN, .int .u64 ca, .int .u64 cb, .slice xB cc cd, .slice ce cf cg]⟩ 26) →
 ∃ x13 : Int, w1.cell? left = some (.int .i64 x13) ∧
 ∃ x14 : Int, IntKind.i64.wrap (x13 - 1) = x14 ∧
 CanStore w1 left (.int .i64 x14) ∧ ∀ w2, w2 = w1.setCell left (.int .i64 x14) →
 ∃ x18 : Int, w2.cell? left = some (.int .i64 x18) ∧
 (decide (x18 < 0) = true →
 R (.bool false) w2) ∧ (decide (x18 < 0) = false →
 (decide (ch = 0) = true →
 R (.bool false) w2) ∧ (decide (ch = 0) = false →
 ∃ x26 : Bs, w2.cell? ⟨w.heap.size, 1, none⟩ = some (.string (mkS x26)) ∧
 Calls prog 56 ⟨[.string (mkS x26)]⟩ w2 fun e w3 => ∃ x27 : Bool, e = .returned (.bool x27) ∧
 ((!x27) = true →
 R (.bool false) w3) ∧ ((!x27) = false →
 ∃ x32 : Bs, w3.cell? ⟨w.heap.size, 2, none⟩ = some (.string (mkS x32)) ∧
 Calls prog 56 ⟨[.string (mkS x32)]⟩ w3 fun e w4 => ∃ x33 : Bool, e = .returned (.bool x33) ∧
 ((!x33) = true →
 R (.bool false) w4) ∧ ((!x33) = false →
 ∃ (x38 : Ptr) (ci cj : Nat), w4.cell? ⟨w.heap.size, 6, none⟩ = some (.slice x38 ci cj) ∧
 (decide (300 < (ci : Int)) = true →
 R (.bool false) w4) ∧ (decide (300 < (ci : Int)) = false →
 ∀ Kx : World → Prop, (∀ w5,
 (∃ (bp : Ptr) (ck cl : Nat), w5.cell? ⟨w.heap.size, 7, none⟩ = some (.slice bp ck cl) ∧
 ∃ Ix : Nat → Int → World → Prop, (∃ m_2, Ix m_2 0 w5) ∧
 ∀ m, ∀ aa : Int, ∀ w6, Ix m aa w6 →
 (decide (aa < (ck : Int)) = true →
 ((0 : Int) ≤ aa ∧ aa < (ck : Int)) ∧ ∃ ab : Addr, bp = some ab ∧
 ∃ ac : Bs, ∃ ad : Int, ∃ ae af : Bs, ∃ ag ah ai : Int, ∃ (bq : Ptr) (cm cn : Nat), ∃ (br : Ptr) (co cp : Nat), LoadsRow prog 46 w6 (ab.add (aa.toNat * 9)) [.string (mkS ac), .int .i64 ad, .string (mkS ae), .string (mkS af), .int .i64 ag, .int .u64 ah, .int .u64 ai, .slice bq cm cn, .slice br co cp] ∧
 ∀ w7, w7 = w6.alloc (.cells ⟨[.string (mkS []), .int .i64 0, .string (mkS []), .string (mkS []), .int .i64 0, .int .u64 0, .int .u64 0, .slice none 0 0, .slice none 0 0]⟩ 46) →
 ∃ w8, (Instr.storeAt 46 (.pointer (some ⟨w6.heap.size, 0, none⟩)) (.agg ⟨[.string (mkS ac), .int .i64 ad, .string (mkS ae), .string (mkS af), .int .i64 ag, .int .u64 ah, .int .u64 ai, .slice bq cm cn, .slice br co cp]⟩)).run prog w7 = .ok () w8 ∧
 ∃ aj : Bs, w8.cell? ⟨w6.heap.size, 0, none⟩ = some (.string (mkS aj)) ∧
 Calls prog 56 ⟨[.string (mkS aj)]⟩ w8 fun e w9 => ∃ ak : Bool, e = .returned (.bool ak) ∧
 ((!ak) = true →
 R (.bool false) w9) ∧ ((!ak) = false →
 ∃ al : Bs, w9.cell? ⟨w6.heap.size, 0, none⟩ = some (.string (mkS al)) ∧
 ((!decide (al = [])) = true →
 ∃ am : Bs, w9.cell? ⟨w6.heap.size, 0, none⟩ = some (.string (mkS am)) ∧
 ∃ ao : UInt8, ((0 : Int) ≤ 0 ∧ am[0]? = some ao) ∧
 (decide ((ao.toNat : Int) = 36) = true →
 R (.bool false) w9) ∧ (decide ((ao.toNat : Int) = 36) = false →
 ∃ ap : Int, ∃ aq ar : Bs, ∃ au av aw : Int, ∃ (bs : Ptr) (cq cr : Nat), ∃ (bt : Ptr) (cs ct : Nat), LoadsRow prog 26 w9 ⟨w6.heap.size, 1, none⟩ [.int .i64 ap, .string (mkS aq), .string (mkS ar), .int .i64 au, .int .u64 av, .int .u64 aw, .slice bs cq cr, .slice bt cs ct] ∧
 ∃ ax : Int, IntKind.i64.wrap (ch - 1) = ax ∧
 Calls prog 21 ⟨[.agg ⟨[.int .i64 ap, .string (mkS aq), .string (mkS ar), .int .i64 au, .int .u64 av, .int .u64 aw, .slice bs cq cr, .slice bt cs ct]⟩, .int .i64 ax, .pointer (some left)]⟩ w9 fun e w10 => ∃ ay : Bool, e = .returned (.bool ay) ∧
 ((!ay) = true →
 R (.bool false) w10) ∧ ((!ay) = false →
 ∃ az : Int, IntKind.i64.wrap (aa + 1) = az ∧
 ∃ m_1, m_1 < m ∧ Ix m_1 az w10))) ∧ ((!decide (al = [])) = false →
 ∃ ba : Int, ∃ bb bc : Bs, ∃ bd be bf : Int, ∃ (bu : Ptr) (cu cv : Nat), ∃ (bv : Ptr) (cw cx : Nat), LoadsRow prog 26 w9 ⟨w6.heap.size, 1, none⟩ [.int .i64 ba, .string (mkS bb), .string (mkS bc), .int .i64 bd, .int .u64 be, .int .u64 bf, .slice bu cu cv, .slice bv cw cx] ∧
 ∃ bg : Int, IntKind.i64.wrap (ch - 1) = bg ∧
 Calls prog 21 ⟨[.agg ⟨[.int .i64 ba, .string (mkS bb), .string (mkS bc), .int .i64 bd, .int .u64 be, .int .u64 bf, .slice bu cu cv, .slice bv cw cx]⟩, .int .i64 bg, .pointer (some left)]⟩ w9 fun e w11 => ∃ bh : Bool, e = .returned (.bool bh) ∧
 ((!bh) = true →
 R (.bool false) w11) ∧ ((!bh) = false →
 ∃ bi : Int, IntKind.i64.wrap (aa + 1) = bi ∧
 ∃ m_1, m_1 < m ∧ Ix m_1 bi w11)))) ∧ (decide (aa < (ck : Int)) = false →
 R (.bool true) w6)) → Kx w5) →
 ∃ x43 : Int, w4.cell? ⟨w.heap.size, 0, none⟩ = some (.int .i64 x43) ∧
 (decide (x43 = 1) = true →
 ∃ x47 : Int, w4.cell? ⟨w.heap.size, 4, none⟩ = some (.int .u64 x47) ∧
 ∃ x48 : Nat, ∃ w12, (callFunc 26 ⟨[.int .u64 x47]⟩).run prog w4 = .ok (.value (.float .f64 x48)) w12 ∧
 ∃ f : List (Addr × Value), Kept w12 f ∧
 ((FloatKind.f64.format.order x48 x48 != some .eq) = true →
 ∃ x54 : Int, (⟨w.heap.size, 4, none⟩, .int .u64 x54) ∈ f ∧
 Calls prog 58 ⟨[]⟩ w12.drew fun e w13 => ∃ x55 : Nat, e = .returned (.float .f64 x55) ∧
 Kept w13 f ∧ ∃ x56 : Int, ∃ w14, (callFunc 57 ⟨[.float .f64 x55]⟩).run prog w13 = .ok (.value (.int .u64 x56)) w14 ∧
 Kept w14 f ∧ ((!decide (x54 = x56)) = true →
 R (.bool false) w14) ∧ ((!decide (x54 = x56)) = false →
 Kx w14)) ∧ ((FloatKind.f64.format.order x48 x48 != some .eq) = false →
 Kept w12.drew f ∧ Kept w12.drew f ∧ Kx w12.drew)) ∧ (decide (x43 = 1) = false →
 (decide (x43 = 12) = true →
 ∃ f_1 : List (Addr × Value), Kept w4 f_1 ∧
 ∃ x62 : Bs, (⟨w.heap.size, 1, none⟩, .string (mkS x62)) ∈ f_1 ∧
 ∃ x65 : Bs, (⟨w.heap.size, 1, none⟩, .string (mkS x65)) ∈ f_1 ∧
 [34].length + x65.length ≤ 9223372036854775807 ∧
 ([34] ++ x65).length + [34].length ≤ 9223372036854775807 ∧
 Calls prog 24 ⟨[.string (mkS x62), .bool true]⟩ w4.drew fun e w15 => ∃ x63 : Bs, e = .returned (.string (mkS x63)) ∧
 Kept w15 f_1 ∧ ((!decide (x63 = (([34] ++ x65) ++ [34]))) = true →
 R (.bool false) w15) ∧ ((!decide (x63 = (([34] ++ x65) ++ [34]))) = false →
 Kx w15)) ∧ (decide (x43 = 12) = false →
 (decide (x43 = 19) = true →
 ∃ x72 : Int, w4.cell? ⟨w.heap.size, 5, none⟩ = some (.int .u64 x72) ∧
 ∃ x74 : Int, w4.cell? ⟨w.heap.size, 4, none⟩ = some (.int .u64 x74) ∧
 Calls prog 59 ⟨[.int .u64 x72, .int .u64 x74]⟩ w4 fun e w16 => ∃ x75 : Bool, e = .returned (.bool x75) ∧
 ((!x75) = true →
 R (.bool false) w16) ∧ ((!x75) = false →
 Kx w16)) ∧ (decide (x43 = 19) = false →
 (decide (x43 = 11) = true →
 ∃ x80 : Bs, w4.cell? ⟨w.heap.size, 2, none⟩ = some (.string (mkS x80)) ∧
 ∀ w17, w17 = w4.alloc (.stringIter (mkS x80) 0) →
 ∃ bj : Nat → World → Prop, (∃ m_5, bj m_5 w17) ∧
 ∀ m_3, ∀ w18, bj m_3 w18 →
 ∃ (str : Bs) (pos : Nat), w18.heap[w4.heap.size]? = some (.stringIter (mkS str) pos) ∧
 (pos < str.length → ∀ w19 : World, w19 = { w18 with heap := w18.heap.setIfInBounds w4.heap.size (.stringIter (mkS str) (pos + (Utf8.decode (mkS str) pos).2)) } →
 ∃ x86 : Bs, w19.drew.cell? ⟨w.heap.size, 2, none⟩ = some (.string (mkS x86)) ∧
 ∃ x88 : UInt8, ((0 : Int) ≤ (pos : Int) ∧ x86[(pos : Int).toNat]? = some x88) ∧
 (decide ((x88.toNat : Int) < 97) = true →
 R (.bool false) w19.drew) ∧ (decide ((x88.toNat : Int) < 97) = false →
 ∃ x92 : Bs, w19.drew.cell? ⟨w.heap.size, 2, none⟩ = some (.string (mkS x92)) ∧
 ∃ x94 : UInt8, ((0 : Int) ≤ (pos : Int) ∧ x92[(pos : Int).toNat]? = some x94) ∧
 (decide (122 < (x94.toNat : Int)) = true →
 R (.bool false) w19.drew) ∧ (decide (122 < (x94.toNat : Int)) = false →
 (decide (0 < (pos : Int)) = true →
 ∃ bk : Bs, w19.drew.cell? ⟨w.heap.size, 2, none⟩ = some (.string (mkS bk)) ∧
 ∃ bl : UInt8, ((0 : Int) ≤ (pos : Int) ∧ bk[(pos : Int).toNat]? = some bl) ∧
 ∃ bm : Bs, w19.drew.cell? ⟨w.heap.size, 2, none⟩ = some (.string (mkS bm)) ∧
 ∃ bn : Int, IntKind.i64.wrap ((pos : Int) - 1) = bn ∧
 ∃ bo : UInt8, ((0 : Int) ≤ bn ∧ bm[bn.toNat]? = some bo) ∧
 (decide ((bl.toNat : Int) < (bo.toNat : Int)) = true →
 R (.bool false) w19.drew) ∧ (decide ((bl.toNat : Int) < (bo.toNat : Int)) = false →
 ∃ m_4, m_4 < m_3 ∧ bj m_4 w19.drew)) ∧ (decide (0 < (pos : Int)) = false →
 ∃ m_4, m_4 < m_3 ∧ bj m_4 w19.drew)))) ∧ (¬ pos < str.length →
 Kx w18)) ∧ (decide (x43 = 11) = false →
 Kx w4)))))))))
def an21 : Ann :=
 .k .z
 (.k (.t [.q, .q, .s [.int .i64]])
 (.k (.k (.t [.q, .q, .s [.int .i64], .q, .q, .gs .n 1 2, .q, .q, .q, .on 2 (.gs .n 3 4) (.q), .on 4 (.s [.str]) (.q), .on 4 (.s [.bool]) (.q), .q, .q, .q, .on 4 (.gs .n 5 6) (.q), .on 6 (.s [.str]) (.q), .on 6 (.s [.bool]) (.q), .q, .q, .q, .on 6 (.gs .n 7 8) (.q), .on 8 (.s [.slice]) (.q)])
 (.on 8 (.cond 9 10 .zl .l) (.yes .zl)))
 (.cut [] [1, 2, 3] (.k (.t [.q, .s [.int .i64]])
 (.block (.k .z
 (.cond 21 22 (.k (.t [.q, .s [.int .u64], .s [.float]])
 (.k (.reg (.held [] (.take 0 (.q) (.take 1 (.q) (.take 2 (.q) (.take 3 (.q) (.take 4 (.gs .n 23 24) (.take 5 (.on 24 (.q) (.s [.int .u64])) (.run 6 (.on 24 (.q) (.s [.float])) (.run 7 (.on 24 (.q) (.s [.int .u64])) (.take 8 (.q) (.take 9 (.q) .done)) .done) .done)))))))))
 (.on 24 (.no .l) (.cond 25 26 .zl .l)))) (.k .z
 (.cond 27 28 (.k (.reg (.held [] (.take 0 (.q) (.take 1 (.s [.str]) (.take 3 (.q) (.take 4 (.s [.str]) (.take 5 (.q) (.take 6 (.q) (.run 2 (.s [.str]) (.take 7 (.q) .done) .done)))))))))
 (.cond 29 30 .zl .l)) (.k .z
 (.cond 31 32 (.k (.t [.q, .s [.int .u64], .q, .s [.int .u64], .s [.bool]])
 (.cond 33 34 .zl .l)) (.k .z
 (.cond 35 36 (.k (.t [.q, .s [.str]])
 (.block (.loop [] [1, 2, 3, 81] (.k (.t [.nx 37 38])
 (.k (.on 38 (.no .l) (.yes .l))
 (.block (.k .z
 (.k (.reg (.loads (.take 0 (.q) (.take 1 (.s [.str]) (.take 2 (.q) (.take 3 (.q) (.take 4 (.q) (.take 5 (.q) (.take 6 (.gs .n 39 40) (.take 7 (.on 40 (.s [.str]) (.q)) (.take 8 (.q) (.take 9 (.q) (.take 10 (.q) (.take 11 (.q) (.take 12 (.q) (.take 13 (.on 40 (.gs .n 41 42) (.q)) (.take 14 (.q) (.take 15 (.q) (.take 16 (.on 42 (.gs .n 43 44) (.q)) (.take 17 (.on 43 (.s [.str]) (.q)) (.take 18 (.q) (.take 19 (.q) (.take 20 (.q) (.take 21 (.on 43 (.s [.str]) (.q)) (.take 22 (.q) (.take 23 (.q) (.take 24 (.q) (.take 25 (.q) (.take 26 (.q) (.take 27 (.q) .done))))))))))))))))))))))))))))))
 (.on 44 (.no .l) (.on 43 (.cond 45 46 .zl .l) (.yes .zl))))))))))) .l))))))))))
 (.k (.k (.t [.q, .s [.slice]])
 (.block (.loop [(116, .int .i64)] [1, 2, 114, 115] (.k .z
 (.k (.cond 11 12 .l .l)
 (.k (.block (.k (.t [.s [], .s [.str, .int .i64, .str, .str, .int .i64, .int .u64, .int .u64, .slice, .slice]])
 (.k (.t [.q, .s [.str], .s [.bool], .q, .q, .gs .n 13 14, .on 14 (.s [.str]) (.q), .q, .q, .on 14 (.gs .n 15 16) (.q), .on 15 (.s [.str]) (.q), .q, .q, .q, .q, .q, .on 15 (.gs .n 17 18) (.q), .on 16 (.s [.int .i64, .str, .str, .int .i64, .int .u64, .int .u64, .slice, .slice]) (.on 18 (.s [.int .i64, .str, .str, .int .i64, .int .u64, .int .u64, .slice, .slice]) (.q)), .q, .q, .q, .on 16 (.s [.bool]) (.on 18 (.s [.bool]) (.q))])
 (.on 16 (.cond 19 20 .zl .l) (.on 18 (.cond 19 20 .zl .l) (.yes .zl))))))
 .z))))))
 .zl))))
theorem c21 (aa : Int) (ab : Bs) (ac : Bs) (xN : Int) (ad : Int) (ae : Int) (xB : Ptr) (af ag : Nat) (ah : Ptr) (ai aj : Nat) (ak : Int) (left : Addr) (w : World) (R : RR) (hvc : VC21 aa ab ac xN ad ae xB af ag ah ai aj ak left w R) : CR 21 [.agg ⟨[.int .i64 aa, .string (mkS ab), .string (mkS ac), .int .i64 xN, .int .u64 ad, .int .u64 ae, .slice xB af ag, .slice ah ai aj]⟩, .int .i64 ak, .pointer (some left)] w R :=
 vcc (fn := f21) (ann := an21) hvc (by kernel_rfl) (by kernel_rfl)
def VC59 (hi : Int) (lo : Int) (w : World) (R : RR) : Prop :=
 Calls prog 38 ⟨[.int .u64 hi, .int .u64 lo]⟩ w fun e w1 => ∃ x10 : List Value, e = .returned (.agg ⟨x10⟩) ∧
 ∀ w2, w2 = w1.alloc (.cells ⟨[.int .i64 0, .bool false, .string (mkS []), .int .i64 0]⟩ 64) →
 ∃ w3, (Instr.storeAt 64 (.pointer (some ⟨w1.heap.size, 0, none⟩)) (.agg ⟨x10⟩)).run prog w2 = .ok () w3 ∧
 ∀ Kx : World → Prop, (∀ w4,
 (∃ x26 : Int, ∃ aa : Bool, ∃ ab : Bs, ∃ ac : Int, LoadsRow prog 64 w4 ⟨w1.heap.size, 0, none⟩ [.int .i64 x26, .bool aa, .string (mkS ab), .int .i64 ac] ∧
 Calls prog 112 ⟨[.agg ⟨[.int .i64 x26, .bool aa, .string (mkS ab), .int .i64 ac]⟩]⟩ w4 fun e w5 => ∃ x27 ad : Int, e = .returned (.tuple ⟨[.int .u64 x27, .int .u64 ad]⟩) ∧
 (decide (x27 = hi) = true →
 R (.bool (decide (ad = lo))) w5) ∧ (decide (x27 = hi) = false →
 R (.bool false) w5)) → Kx w4) →
 ∃ x11 : Int, ∃ ae : Bool, ∃ af : Bs, ∃ ag : Int, LoadsRow prog 64 w3 ⟨w1.heap.size, 0, none⟩ [.int .i64 x11, .bool ae, .string (mkS af), .int .i64 ag] ∧
 Calls prog 111 ⟨[.agg ⟨[.int .i64 x11, .bool ae, .string (mkS af), .int .i64 ag]⟩]⟩ w3 fun e w6 => ∃ x12 : Bool, e = .returned (.bool x12) ∧
 ((!x12) = true →
 R (.bool false) w6) ∧ ((!x12) = false →
 (0 : Int) ≤ 61 ∧ ∃ x16 : Int, Int.fdiv hi (2 ^ 61) = x16 ∧
 ∃ x17 : Int, bits .and .u64 x16 3 = x17 ∧
 (decide (x17 = 3) = true →
 ∃ x21 : Int, w6.cell? ⟨w1.heap.size, 0, none⟩ = some (.int .i64 x21) ∧
 (decide (x21 = 0) = true →
 R (.bool false) w6) ∧ (decide (x21 = 0) = false →
 Kx w6)) ∧ (decide (x17 = 3) = false →
 Kx w6))
def an59 : Ann :=
 .k .z
 (.k (.t [.q, .q, .s [.agg]])
 (.cut [] [0, 1, 5] (.k (.t [.s [.int .i64, .bool, .str, .int .i64], .s [.bool], .q, .q, .gs .n 3 4, .q, .q, .q, .q, .on 4 (.gs .n 5 6) (.q), .on 5 (.s [.int .i64]) (.q)])
 (.on 6 (.no .l) (.on 5 (.cond 7 8 .zl .l) (.yes .zl))))
 (.k (.t [.s [.int .i64, .bool, .str, .int .i64], .s [.int .u64, .int .u64]])
 (.k (.t [.q, .q, .q, .q, .gs .n 1 2])
 .l))))
theorem c59 (hi : Int) (lo : Int) (w : World) (R : RR) (hvc : VC59 hi lo w R) : CR 59 [.int .u64 hi, .int .u64 lo] w R :=
 vcc (fn := f59) (ann := an59) hvc (by kernel_rfl) (by kernel_rfl)
def VC58  (w : World) (R : RR) : Prop :=
 ∃ x1 : Nat, ∃ w1, (callFunc 26 ⟨[.int .u64 9221120237041090561]⟩).run prog w = .ok (.value (.float .f64 x1)) w1 ∧
 R (.float .f64 x1) w1
def an58 : Ann :=
 .k .z
 (.k (.t [.s [.float]])
 .l)
theorem c58  (w : World) (R : RR) (hvc : VC58  w R) : CR 58 [] w R :=
 vcc (fn := f58) (ann := an58) hvc (by kernel_rfl) (by kernel_rfl)
end Go.Proofs.Tryz
set_option linter.unusedVariables false
namespace Go.Proofs.Tryz
open Go.Vc Go.RowKit
theorem ret6 (x : Val) (bp kp : Option Addr) (bc kc : Nat) (w : World) (b : Bool)
    (hb : b = (decide (x.text.length ≤ 2147483647) && decide (x.more.length ≤ 2147483647) && decide (x.b.length ≤ 2147483647) && decide (x.kids.length ≤ 2147483647))) :
    Ret 6 [.agg ⟨valCells x bp bc kp kc⟩] w (.bool b) := by
  refine Ret.of (c6 _ _ _ _ _ _ _ _ _ _ _ _ w _ ?_)
  unfold VC6
  intro w1 hw1
  have hl : Lies w1 w.heap.size 0 (valCells x bp bc kp kc) := by rw [hw1]; exact lies_alloc w _ 26
  have hk : Keeps w w1 := by rw [hw1]; exact (Keeps.refl w).alloc _
  subst hb
  refine ⟨x.text, hl.at 1 rfl rfl, fun h => ⟨?_, hk⟩, fun h => ⟨x.more, hl.at 2 rfl rfl, fun h' => ⟨?_, hk⟩, fun h' => ⟨bp, x.b.length, bc, hl.at 6 rfl rfl, fun h2 => ⟨?_, hk⟩, fun h2 => ⟨kp, x.kids.length, kc, hl.at 7 rfl rfl, fun h3 => ⟨?_, hk⟩, fun h3 => ⟨?_, hk⟩⟩⟩⟩⟩ <;> simp only [decide_eq_true_eq, decide_eq_false_iff_not] at *
  · have : ¬ x.text.length ≤ 2147483647 := by omega
    simp [this]
  · have : ¬ x.more.length ≤ 2147483647 := by omega
    simp [this]
  · have : ¬ x.b.length ≤ 2147483647 := by omega
    simp [this]
  · have : ¬ x.kids.length ≤ 2147483647 := by omega
    simp [this]
  · have h1 : x.text.length ≤ 2147483647 := by omega
    have h2 : x.more.length ≤ 2147483647 := by omega
    have h3 : x.b.length ≤ 2147483647 := by omega
    have h4 : x.kids.length ≤ 2147483647 := by omega
    simp [h1, h2, h3, h4]
def knownB (k : Int) : Bool := (decide (1 ≤ k) && decide (k ≤ 19)) || decide (k = 255) || decide (k = 127)
theorem ret113 (k : Int) (w : World) : Ret 113 [.int .i64 k] w (.bool (knownB k)) := by
  refine Ret.of (c113 k w _ ?_)
  unfold VC113 knownB
  refine ⟨fun h1 => ⟨fun h2 => ⟨?_, Keeps.refl _⟩, fun h2 => ⟨fun h3 => ⟨?_, Keeps.refl _⟩, fun h3 => ⟨?_, Keeps.refl _⟩⟩⟩, fun h1 => ⟨fun h3 => ⟨?_, Keeps.refl _⟩, fun h3 => ⟨?_, Keeps.refl _⟩⟩⟩ <;> simp [*]
def plainB (s : List UInt8) : Bool := s.all fun b => !decide (b = 0)
theorem ret115 (s : List UInt8) (w : World) (hl : s.length ≤ 1099511627776) : Ret 115 [.string (mkS s)] w (.bool (plainB s)) := by
  refine Ret.of (c115 s w _ ?_)
  unfold VC115
  refine ⟨fun m i w' => w' = w ∧ ∃ k : Nat, i = k ∧ k ≤ s.length ∧ m = s.length - k ∧ plainB s = plainB (s.drop k), ⟨s.length, rfl, 0, rfl, by omega, rfl, rfl⟩, ?_⟩
  rintro m i w' ⟨rfl, k, rfl, hk, rfl, hp⟩
  refine ⟨fun h => ?_, fun h => ?_⟩
  · simp only [decide_eq_true_eq] at h
    have hlt : k < s.length := by omega
    have hget := List.getElem?_eq_getElem hlt
    have hd : s.drop k = s[k]'hlt :: s.drop (k + 1) := List.drop_eq_getElem_cons hlt
    have hz : (s[k]'hlt).toNat = 0 ↔ s[k]'hlt = 0 := ⟨fun e => UInt8.toNat_inj.1 (by rw [e]; rfl), fun e => by rw [e]; rfl⟩
    refine ⟨s[k]'hlt, ⟨by omega, hget⟩, fun h0 => ⟨?_, Keeps.refl _⟩, fun h0 => ⟨_, i64w (by omega) (by omega), s.length - (k + 1), by omega, rfl, k + 1, by omega, by omega, rfl, ?_⟩⟩
    · simp only [decide_eq_true_eq] at h0
      have : s[k]'hlt = 0 := hz.1 (by omega)
      rw [hp, hd]; simp [plainB, this]
    · simp only [decide_eq_false_iff_not] at h0
      have : ¬ s[k]'hlt = 0 := fun e => h0 (by rw [e]; rfl)
      rw [hp, hd]; unfold plainB; rw [List.all_cons, decide_eq_false this]; rfl
  · simp only [decide_eq_false_iff_not] at h
    have hd : s.drop k = [] := List.drop_eq_nil_of_le (by omega)
    refine ⟨?_, Keeps.refl _⟩
    rw [hp, hd]; rfl
theorem plain_not {s : List UInt8} (h : plainB s = true) : (0 : UInt8) ∉ s := fun hm => by
  have := List.all_eq_true.1 h 0 hm
  simp at this
theorem digit_conv (w w1 : World) (d : UInt8) (x : Int) (hx : x = (d.toNat : Int)) (h : w1 = w.alloc (.cells ⟨[.int .u8 x]⟩ 5)) :
    (convert 23 9 (.slice (some (⟨w.heap.size, 0, none⟩)) 1 1)).run prog w1 = .ok (.string (mkS [d])) w1 := by
  subst h hx
  have ho := Own.new w.heap.size w [d] (Nat.le_refl _) (by simp)
  exact conv_string (n := 1) ho.reads rfl
theorem ret116 : ∀ (m : Nat) (n : Int), m ≤ 1125899906842625 → 0 ≤ n → n < m → n ≤ 9223372036854775807 → ∃ t : List UInt8, t.length ≤ m ∧ ∀ w, Ret 116 [.int .i64 n] w (.string (mkS t))
  | 0, n, _, h0, h1, _ => by omega
  | m + 1, n, hm, h0, h1, h2 => by
    by_cases hn : n < 10
    · refine ⟨[UInt8.ofNat (48 + n.toNat)], by simp, fun w => Ret.of (c116 n w _ ?_)⟩
      unfold VC116
      refine ⟨fun _ => ⟨_, i64w (by omega) (by omega), _, u8w (by omega) (by omega), fun w1 hw1 => ?_⟩, fun h => by simp only [decide_eq_false_iff_not] at h; omega⟩
      have e : 48 + n = ((UInt8.ofNat (48 + n.toNat)).toNat : Int) := by rw [u8_toNat_ofNat _ (by omega)]; omega
      exact ⟨_, w1, digit_conv w w1 _ _ e hw1, rfl, by rw [hw1]; exact (Keeps.refl w).alloc _⟩
    · have hdiv : n.tdiv 10 = n / 10 := Int.tdiv_eq_ediv_of_nonneg h0
      have hmod : n.tmod 10 = n % 10 := Int.tmod_eq_emod_of_nonneg h0
      obtain ⟨t, ht, hret⟩ := ret116 m (n / 10) (by omega) (by omega) (by omega) (by omega)
      refine ⟨t ++ [UInt8.ofNat (48 + (n % 10).toNat)], by simp; omega, fun w => Ret.of (c116 n w _ ?_)⟩
      unfold VC116
      rw [hdiv, hmod]
      have e : 48 + n % 10 = ((UInt8.ofNat (48 + (n % 10).toNat)).toNat : Int) := by rw [u8_toNat_ofNat _ (by omega)]; omega
      refine ⟨fun h => by simp only [decide_eq_true_eq] at h; omega, fun _ => ⟨[], trivial, by decide, _, i64w (by omega) (by omega), by decide, _, rfl, _, i64w (n := 48 + n % 10) (by omega) (by omega), _, u8w (by omega) (by omega), ?_, ?_⟩⟩
      · refine (hret w.drew).go fun w3 hk3 => ⟨_, rfl, fun w4 hw4 => ⟨_, w4, digit_conv w3 w4 _ _ e hw4, ?_, rfl, ?_⟩⟩
        · simp; omega
        · rw [hw4]; exact (Keeps.trans ((Keeps.refl w).drew) hk3).alloc _
      · intro w6 hw6
        have hk6 : Keeps w w6 := by rw [hw6]; exact ((Keeps.refl w).drew).alloc _
        have hconv := digit_conv w.drew w6 _ _ e hw6
        have hO : Own w.heap.size w6 (some ⟨w.drew.heap.size, 0, none⟩) 1 1 [UInt8.ofNat (48 + (n % 10).toNat)] := by
          rw [hw6, e]; exact Own.new w.heap.size w.drew [_] (Nat.le_refl _) (by simp)
        refine ⟨?_, ?_⟩
        · refine (hret w6).go fun w7 hk7 => ⟨_, rfl, _, w7, conv_string (n := 1) (hO.keeps hk7).reads rfl, ?_, rfl, hk6.trans hk7⟩
          simp; omega
        · refine ⟨_, w6, hconv, ?_⟩
          refine (hret w6).go fun w10 hk10 => ⟨_, rfl, ?_, rfl, hk6.trans hk10⟩
          simp; omega
def Row8 (cs : List Value) : Prop := ∃ (k : Int) (t m : List UInt8) (n b h : Int) (bp : Option Addr) (bn bc : Nat) (kp : Option Addr) (kn kc : Nat),
  cs = [.int .i64 k, .string (mkS t), .string (mkS m), .int .i64 n, .int .u64 b, .int .u64 h, .slice bp bn bc, .slice kp kn kc]
theorem row8_val (x : Val) (bp kp : Option Addr) (bc kc : Nat) : Row8 (valCells x bp bc kp kc) := ⟨_, _, _, _, _, _, _, _, _, _, _, _, rfl⟩
theorem ret114 (x : Val) (bp kp : Option Addr) (bc kc : Nat) (w : World) :
    Calls prog 114 ⟨[.agg ⟨valCells x bp bc kp kc⟩]⟩ w fun e w' => ∃ cs, e = .returned (.agg ⟨cs⟩) ∧ Row8 cs ∧ Keeps w w' := by
  have := c114 x.kind x.text x.more x.num x.bits x.high bp x.b.length bc kp x.kids.length kc w (fun v w' => ∃ cs, v = .agg ⟨cs⟩ ∧ Row8 cs ∧ Keeps w w') ?_
  · exact this.mono fun e w' ⟨v, he, cs, hv, h⟩ => ⟨cs, by rw [he, hv], h⟩
  unfold VC114
  intro w1 hw1 w2 hw2
  intro K hK
  let zs : List Value := [.int .i64 0, .string (mkS []), .string (mkS []), .int .i64 0, .int .u64 0, .int .u64 0, .slice none 0 0, .slice none 0 0]
  have hs1 : w1.heap.size = w.heap.size + 1 := by rw [hw1]; simp
  have hk1 : Keeps w w1 := by rw [hw1]; exact (Keeps.refl w).alloc _
  have hk2 : Keeps w1 w2 := by rw [hw2]; exact (Keeps.refl w1).alloc _
  have hv1 : Var w1 w.heap.size 26 (valCells x bp bc kp kc) := by rw [hw1]; exact var_alloc w _ 26
  have hz2 : Var w2 w1.heap.size 26 zs := by rw [hw2]; exact var_alloc w1 _ 26
  let J : World → Prop := fun w' => Keeps w w' ∧ (∃ cs, Row8 cs ∧ Var w' w.heap.size 26 cs) ∧ Var w' w1.heap.size 26 zs
  have hJ2 : J w2 := ⟨hk1.trans hk2, ⟨_, row8_val x bp kp bc kc, hv1.keeps hk2⟩, hz2⟩
  have can : ∀ w' j v, J w' → j < 8 → v.oneCell' = true → CanStore w' ⟨w.heap.size, j, none⟩ v := by
    rintro w' j v ⟨_, ⟨cs, ⟨k, t, m, n, b, h, bp, bn, bc, kp, kn, kc, rfl⟩, hv⟩, _⟩ hj hov
    exact hv.can (by simpa using hj) hov
  have set : ∀ w' w'' j v, J w' → w'' = w'.setCell ⟨w.heap.size, j, none⟩ v → (∀ cs, Row8 cs → Row8 (cs.set j v)) → J w'' := by
    rintro w' w'' j v ⟨hk, ⟨cs, hr, hv⟩, hz⟩ rfl hset
    refine ⟨Below.setCell hk (Nat.le_refl _) v, ⟨_, hset cs hr, hv.set j v⟩, hz.keep ?_⟩
    exact Below.heap_setCell _ _ _ _ (by simp only; omega)
  have key : ∀ w', J w' → K w' := by
    rintro w' ⟨hk, ⟨cs, ⟨k, t, m, n, b, h, bp, bn, bc, kp, kn, kc, rfl⟩, hv⟩, hz⟩
    refine hK w' ⟨k, t, m, n, b, h, bp, bn, bc, kp, kn, kc, hv.lies.row n26, ?_⟩
    obtain ⟨w4, hr, hg, hs, hv4⟩ := store_row hz n26 (zs := zs) (cs := [.int .i64 k, .string (mkS t), .string (mkS m), .int .i64 n, .int .u64 b, .int .u64 h, .slice bp bn bc, .slice kp kn kc]) rfl rfl rfl
    exact ⟨w4, hr, _, hv4.lies.row n26, _, rfl, ⟨k, t, m, n, b, h, bp, bn, bc, kp, kn, kc, rfl⟩, Below.grown hk hg hk.size (fun j hj => by simp at hj; omega)⟩
  have s0 : ∀ cs, Row8 cs → Row8 (cs.set 4 (.int .u64 0)) := by rintro cs ⟨k, t, m, n, b, h, bp, bn, bc, kp, kn, kc, rfl⟩; exact ⟨_, _, _, _, _, _, _, _, _, _, _, _, rfl⟩
  have s1 : ∀ cs, Row8 cs → Row8 (cs.set 1 (.string (mkS []))) := by rintro cs ⟨k, t, m, n, b, h, bp, bn, bc, kp, kn, kc, rfl⟩; exact ⟨_, _, _, _, _, _, _, _, _, _, _, _, rfl⟩
  have s2 : ∀ cs, Row8 cs → Row8 (cs.set 2 (.string (mkS []))) := by rintro cs ⟨k, t, m, n, b, h, bp, bn, bc, kp, kn, kc, rfl⟩; exact ⟨_, _, _, _, _, _, _, _, _, _, _, _, rfl⟩
  have s3 : ∀ cs, Row8 cs → Row8 (cs.set 3 (.int .i64 0)) := by rintro cs ⟨k, t, m, n, b, h, bp, bn, bc, kp, kn, kc, rfl⟩; exact ⟨_, _, _, _, _, _, _, _, _, _, _, _, rfl⟩
  have s5 : ∀ cs, Row8 cs → Row8 (cs.set 5 (.int .u64 0)) := by rintro cs ⟨k, t, m, n, b, h, bp, bn, bc, kp, kn, kc, rfl⟩; exact ⟨_, _, _, _, _, _, _, _, _, _, _, _, rfl⟩
  have s6 : ∀ cs, Row8 cs → Row8 (cs.set 6 (.slice none 0 0)) := by rintro cs ⟨k, t, m, n, b, h, bp, bn, bc, kp, kn, kc, rfl⟩; exact ⟨_, _, _, _, _, _, _, _, _, _, _, _, rfl⟩
  have s7 : ∀ cs, Row8 cs → Row8 (cs.set 7 (.slice none 0 0)) := by rintro cs ⟨k, t, m, n, b, h, bp, bn, bc, kp, kn, kc, rfl⟩; exact ⟨_, _, _, _, _, _, _, _, _, _, _, _, rfl⟩
  have one : ∀ w' j v, J w' → j < 8 → v.oneCell' = true → (∀ cs, Row8 cs → Row8 (cs.set j v)) → CanStore w' ⟨w.heap.size, j, none⟩ v ∧ ∀ w'', w'' = w'.setCell ⟨w.heap.size, j, none⟩ v → K w'' :=
    fun w' j v hj h1 h2 h3 => ⟨can w' j v hj h1 h2, fun w'' e => key _ (set _ _ _ _ hj e h3)⟩
  have two : ∀ w' j v j' v', J w' → j < 8 → v.oneCell' = true → (∀ cs, Row8 cs → Row8 (cs.set j v)) → j' < 8 → v'.oneCell' = true → (∀ cs, Row8 cs → Row8 (cs.set j' v')) →
      CanStore w' ⟨w.heap.size, j, none⟩ v ∧ ∀ w'', w'' = w'.setCell ⟨w.heap.size, j, none⟩ v → CanStore w'' ⟨w.heap.size, j', none⟩ v' ∧ ∀ w3, w3 = w''.setCell ⟨w.heap.size, j', none⟩ v' → K w3 :=
    fun w' j v j' v' hj h1 h2 h3 h4 h5 h6 => ⟨can w' j v hj h1 h2, fun w'' e => one w'' j' v' (set _ _ _ _ hj e h3) h4 h5 h6⟩
  refine ⟨x.kind, (hv1.keeps hk2).lies.at 0 rfl rfl, ?_⟩
  intro K1 hK1
  have k1 : ∀ b, K1 b w2 := by
    intro b
    refine hK1 b w2 ⟨fun _ => one w2 4 _ hJ2 (by decide) rfl s0, fun _ => ?_⟩
    intro K2 hK2
    have k2 : ∀ b, K2 b w2 := by
      intro b
      refine hK2 b w2 ⟨fun _ => one w2 1 _ hJ2 (by decide) rfl s1, fun _ => ?_⟩
      intro K3 hK3
      have k3 : ∀ b, K3 b w2 := by
        intro b
        refine hK3 b w2 ⟨fun _ => one w2 7 _ hJ2 (by decide) rfl s7, fun _ => ⟨fun _ => two w2 3 _ 6 _ hJ2 (by decide) rfl s3 (by decide) rfl s6, fun _ => ⟨fun _ => one w2 6 _ hJ2 (by decide) rfl s6, fun _ => ?_⟩⟩⟩
        intro K4 hK4
        have k4 : ∀ b, K4 b w2 := by
          intro b
          exact hK4 b w2 ⟨fun _ => one w2 3 _ hJ2 (by decide) rfl s3, fun _ => ⟨fun _ => two w2 1 _ 2 _ hJ2 (by decide) rfl s1 (by decide) rfl s2, fun _ => ⟨fun _ => two w2 1 _ 6 _ hJ2 (by decide) rfl s1 (by decide) rfl s6,
            fun _ => ⟨fun _ => two w2 1 _ 7 _ hJ2 (by decide) rfl s1 (by decide) rfl s7, fun _ => ⟨fun _ => two w2 4 _ 5 _ hJ2 (by decide) rfl s0 (by decide) rfl s5, fun _ => key w2 hJ2⟩⟩⟩⟩⟩
        exact ⟨fun _ => k4 _, fun _ => ⟨fun _ => k4 _, fun _ => ⟨fun _ => k4 _, fun _ => k4 _⟩⟩⟩
      exact ⟨fun _ => k3 _, fun _ => k3 _⟩
    exact ⟨fun _ => k2 _, fun _ => ⟨fun _ => k2 _, fun _ => k2 _⟩⟩
  exact ⟨fun _ => k1 _, fun _ => k1 _⟩
end Go.Proofs.Tryz
