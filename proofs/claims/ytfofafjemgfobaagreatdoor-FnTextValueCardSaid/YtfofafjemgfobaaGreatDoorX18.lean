/- Parts of a proof, joined: VR, B11, B12, W15, B35. -/
import Derived.Test.YtfofafjemgfobaaGreatDoorX4
import Derived.Test.YtfofafjemgfobaaGreatDoorX17
import Derived.Test.YtfofafjemgfobaaGreatDoorX8
set_option linter.unusedVariables false
set_option maxRecDepth 100000
namespace Go.Proofs.Tryz
open Go.Vc
def VC76 (src : Ptr) (ai aj : Nat) (w : World) (R : RR) : Prop :=
 (decide ((ai : Int) < 1) = true →
 R (.tuple ⟨[.slice none 0 0, .slice src ai aj, .bool false]⟩) w) ∧ (decide ((ai : Int) < 1) = false →
 ((0 : Int) ≤ 0 ∧ 0 < (ai : Int)) ∧ ∃ aa : Addr, src = some aa ∧
 ∃ x16 : Int, w.cell? aa = some (.int .u8 x16) ∧
 ∃ Ix : Nat → Int → World → Prop, (∃ m_2, Ix m_2 1 w) ∧
 ∀ m, ∀ idx : Int, ∀ w1, Ix m idx w1 →
 (decide (idx < (ai : Int)) = true →
 ((0 : Int) ≤ idx ∧ idx < (ai : Int)) ∧ ∃ ab : Addr, src = some ab ∧
 ∃ x25 : Int, w1.cell? (ab.add (idx.toNat * 1)) = some (.int .u8 x25) ∧
 ((!decide (x25 = 0)) = true →
 ∃ x29 : Int, IntKind.i64.wrap (idx + 1) = x29 ∧
 ∃ m_1, m_1 < m ∧ Ix m_1 x29 w1) ∧ ((!decide (x25 = 0)) = false →
 (decide ((ai : Int) ≤ idx) = true →
 R (.tuple ⟨[.slice none 0 0, .slice src ai aj, .bool false]⟩) w1) ∧ (decide ((ai : Int) ≤ idx) = false →
 ∃ x36 : Int, IntKind.i64.wrap (idx + 1) = x36 ∧
 ((0 : Int) ≤ x36 ∧ x36 ≤ (ai : Int) ∧ (ai : Int) ≤ (aj : Int)) ∧
 Calls prog 135 ⟨[.slice (slAddr src aj x36.toNat 1) (ai - x36.toNat) (aj - x36.toNat), .int .u8 x16]⟩ w1 fun e w2 => ∃ x42 : Int, ∃ ac : Bool, e = .returned (.tuple ⟨[.int .i32 x42, .bool ac]⟩) ∧
 ((!ac) = true →
 R (.tuple ⟨[.slice none 0 0, .slice src ai aj, .bool false]⟩) w2) ∧ ((!ac) = false →
 ∃ x50 : Int, IntKind.i64.wrap x42 = x50 ∧
 ∃ x51 : Int, IntKind.i64.wrap (x36 + x50) = x51 ∧
 (decide ((ai : Int) < x51) = true →
 R (.tuple ⟨[.slice none 0 0, .slice src ai aj, .bool false]⟩) w2) ∧ (decide ((ai : Int) < x51) = false →
 ((0 : Int) ≤ x51 ∧ x51 ≤ (aj : Int)) ∧
 ((0 : Int) ≤ x51 ∧ x51 ≤ (ai : Int) ∧ (ai : Int) ≤ (aj : Int)) ∧
 R (.tuple ⟨[.slice src x51.toNat aj, .slice (slAddr src aj x51.toNat 1) (ai - x51.toNat) (aj - x51.toNat), .bool true]⟩) w2.drew))))) ∧ (decide (idx < (ai : Int)) = false →
 (decide ((ai : Int) ≤ idx) = true →
 R (.tuple ⟨[.slice none 0 0, .slice src ai aj, .bool false]⟩) w1) ∧ (decide ((ai : Int) ≤ idx) = false →
 ∃ ad : Int, IntKind.i64.wrap (idx + 1) = ad ∧
 ((0 : Int) ≤ ad ∧ ad ≤ (ai : Int) ∧ (ai : Int) ≤ (aj : Int)) ∧
 Calls prog 135 ⟨[.slice (slAddr src aj ad.toNat 1) (ai - ad.toNat) (aj - ad.toNat), .int .u8 x16]⟩ w1 fun e w3 => ∃ ae : Int, ∃ af : Bool, e = .returned (.tuple ⟨[.int .i32 ae, .bool af]⟩) ∧
 ((!af) = true →
 R (.tuple ⟨[.slice none 0 0, .slice src ai aj, .bool false]⟩) w3) ∧ ((!af) = false →
 ∃ ag : Int, IntKind.i64.wrap ae = ag ∧
 ∃ ah : Int, IntKind.i64.wrap (ad + ag) = ah ∧
 (decide ((ai : Int) < ah) = true →
 R (.tuple ⟨[.slice none 0 0, .slice src ai aj, .bool false]⟩) w3) ∧ (decide ((ai : Int) < ah) = false →
 ((0 : Int) ≤ ah ∧ ah ≤ (aj : Int)) ∧
 ((0 : Int) ≤ ah ∧ ah ≤ (ai : Int) ∧ (ai : Int) ≤ (aj : Int)) ∧
 R (.tuple ⟨[.slice src ah.toNat aj, .slice (slAddr src aj ah.toNat 1) (ai - ah.toNat) (aj - ah.toNat), .bool true]⟩) w3.drew)))))
def an76 : Ann :=
 .k .z
 (.k (.k .z
 (.cond 1 2 .zl .l))
 (.k (.t [.q, .s [], .s [.int .u8]])
 (.k .z
 (.k (.block (.loop [(6, .int .i64)] [0, 5] (.k (.k (.t [.q, .q, .q, .q, .q, .gs .n 3 4, .q, .on 4 (.q) (.s []), .on 4 (.q) (.s [.int .u8])])
 (.on 4 (.no .l) (.cond 5 6 .l .l)))
 (.block .z))))
 (.k (.k .z
 (.cond 7 8 .zl .l))
 (.k .z
 (.k (.t [.q, .q, .q, .q, .s [.int .i32, .bool]])
 (.k (.k .z
 (.cond 9 10 .zl .l))
 (.k .z
 (.k (.k .z
 (.cond 11 12 .zl .l))
 (.k (.reg (.loads (.take 0 (.q) (.take 1 (.q) (.take 2 (.q) (.take 3 (.q) (.take 4 (.q) (.take 5 (.q) (.take 6 (.q) (.take 7 (.q) (.take 8 (.q) .done)))))))))))
 .l)))))))))))
theorem c76 (src : Ptr) (aa ab : Nat) (w : World) (R : RR) (hvc : VC76 src aa ab w R) : CR 76 [.slice src aa ab] w R :=
 vcc (fn := f76) (ann := an76) hvc (by kernel_rfl) (by kernel_rfl)
def VC135 (src : Ptr) (ao ap : Nat) (t : Int) (w : World) (R : RR) : Prop :=
 ∀ Kx : Int → Bool → World → Prop, (∀ aa : Int, ∀ ok : Bool, ∀ w1,
 ((decide (aa < 0) = true →
 R (.tuple ⟨[.int .i32 aa, .bool false]⟩) w1) ∧ (decide (aa < 0) = false →
 R (.tuple ⟨[.int .i32 aa, .bool ok]⟩) w1)) → Kx aa ok w1) →
 ∀ ab : Bool → World → Prop, (∀ x11 : Bool, ∀ w2,
 ((x11 = true →
 Calls prog 73 ⟨[.slice src ao ap]⟩ w2 fun e w3 => ∃ x17 : Int, ∃ (aj : Ptr) (aq ar : Nat), ∃ ac : Bool, e = .returned (.tuple ⟨[.int .i32 x17, .slice aj aq ar, .bool ac]⟩) ∧
 Kx x17 ac w3) ∧ (x11 = false →
 (decide (t = 5) = true →
 Calls prog 73 ⟨[.slice src ao ap]⟩ w2 fun e w4 => ∃ x25 : Int, ∃ (ak : Ptr) (au av : Nat), ∃ ad : Bool, e = .returned (.tuple ⟨[.int .i32 x25, .slice ak au av, .bool ad]⟩) ∧
 ∃ x30 : Int, IntKind.i32.wrap (x25 + 5) = x30 ∧
 Kx x30 ad w4) ∧ (decide (t = 5) = false →
 (decide (t = 8) = true →
 Kx 1 true w2) ∧ (decide (t = 8) = false →
 (decide (t = 12) = true →
 Calls prog 73 ⟨[.slice src ao ap]⟩ w2 fun e w5 => ∃ x37 : Int, ∃ (al : Ptr) (aw ax : Nat), ∃ ae : Bool, e = .returned (.tuple ⟨[.int .i32 x37, .slice al aw ax, .bool ae]⟩) ∧
 ∃ x42 : Int, IntKind.i32.wrap (x37 + 16) = x42 ∧
 Kx x42 ae w5) ∧ (decide (t = 12) = false →
 ∀ af : Bool → World → Prop, (∀ x43 : Bool, ∀ w6,
 ((x43 = true →
 Kx 8 true w6) ∧ (x43 = false →
 (decide (t = 19) = true →
 Kx 16 true w6) ∧ (decide (t = 19) = false →
 (decide (t = 16) = true →
 Kx 4 true w6) ∧ (decide (t = 16) = false →
 ∀ ag : Bool → World → Prop, (∀ x52 : Bool, ∀ w7,
 ((x52 = true →
 Calls prog 73 ⟨[.slice src ao ap]⟩ w7 fun e w8 => ∃ x58 : Int, ∃ (am : Ptr) (ay az : Nat), ∃ ah : Bool, e = .returned (.tuple ⟨[.int .i32 x58, .slice am ay az, .bool ah]⟩) ∧
 ∃ x63 : Int, IntKind.i32.wrap (x58 + 4) = x63 ∧
 Kx x63 ah w8) ∧ (x52 = false →
 ∀ ai : Bool → World → Prop, (∀ x64 : Bool, ∀ w9,
 ((x64 = true →
 Kx 0 true w9) ∧ (x64 = false →
 (decide (t = 7) = true →
 Kx 12 true w9) ∧ (decide (t = 7) = false →
 (decide (t = 11) = true →
 Calls prog 136 ⟨[.slice src ao ap, .int .u8 0]⟩ w9 fun e w10 => ∃ x74 : Int, e = .returned (.int .i64 x74) ∧
 (decide (x74 < 0) = true →
 Kx 0 false w10) ∧ (decide (x74 < 0) = false →
 ∃ x79 : Int, IntKind.i64.wrap (x74 + 1) = x79 ∧
 ((0 : Int) ≤ x79 ∧ x79 ≤ (ao : Int) ∧ (ao : Int) ≤ (ap : Int)) ∧
 Calls prog 136 ⟨[.slice (slAddr src ap x79.toNat 1) (ao - x79.toNat) (ap - x79.toNat), .int .u8 0]⟩ w10 fun e w11 => ∃ x81 : Int, e = .returned (.int .i64 x81) ∧
 (decide (x81 < 0) = true →
 Kx 0 false w11) ∧ (decide (x81 < 0) = false →
 ∃ x85 : Int, IntKind.i64.wrap (x74 + 1) = x85 ∧
 ∃ x87 : Int, IntKind.i64.wrap (x85 + x81) = x87 ∧
 ∃ x88 : Int, IntKind.i64.wrap (x87 + 1) = x88 ∧
 ∃ x89 : Int, IntKind.i32.wrap x88 = x89 ∧
 Kx x89 true w11))) ∧ (decide (t = 11) = false →
 Kx 0 false w9)))) → ai x64 w9) →
 (decide (t = 127) = true →
 ai (decide (t = 127)) w7) ∧ (decide (t = 127) = false →
 (decide (t = 255) = true →
 ai (decide (t = 255)) w7) ∧ (decide (t = 255) = false →
 (decide (t = 10) = true →
 ai (decide (t = 10)) w7) ∧ (decide (t = 10) = false →
 ai (decide (t = 6)) w7))))) → ag x52 w7) →
 (decide (t = 13) = true →
 ag (decide (t = 13)) w6) ∧ (decide (t = 13) = false →
 (decide (t = 2) = true →
 ag (decide (t = 2)) w6) ∧ (decide (t = 2) = false →
 ag (decide (t = 14)) w6)))))) → af x43 w6) →
 (decide (t = 9) = true →
 af (decide (t = 9)) w2) ∧ (decide (t = 9) = false →
 (decide (t = 1) = true →
 af (decide (t = 1)) w2) ∧ (decide (t = 1) = false →
 (decide (t = 18) = true →
 af (decide (t = 18)) w2) ∧ (decide (t = 18) = false →
 af (decide (t = 17)) w2)))))))) → ab x11 w2) →
 (decide (t = 4) = true →
 ab (decide (t = 4)) w) ∧ (decide (t = 4) = false →
 (decide (t = 3) = true →
 ab (decide (t = 3)) w) ∧ (decide (t = 3) = false →
 ab (decide (t = 15)) w))
def an135 : Ann :=
 .k .z
 (.k .z
 (.k .z
 (.cut [(6, .int .i32), (7, .bool)] [] (.k .z
 (.block (.cut [(11, .bool)] [0, 6, 7, 10] (.k .z
 (.cond 45 46 .l (.k .z
 (.cond 47 48 .l .z))))
 (.cond 3 4 (.t [.q, .s [.int .i32, .slice, .bool]]) (.k .z
 (.cond 5 6 (.k (.t [.q, .s [.int .i32, .slice, .bool]])
 .z) (.k .z
 (.cond 7 8 .z (.k .z
 (.cond 9 10 (.k (.t [.q, .s [.int .i32, .slice, .bool]])
 .z) (.cut [(43, .bool)] [0, 6, 7, 10] (.k .z
 (.cond 39 40 .l (.k .z
 (.cond 41 42 .l (.k .z
 (.cond 43 44 .l .z))))))
 (.cond 11 12 .z (.k .z
 (.cond 13 14 .z (.k .z
 (.cond 15 16 .z (.cut [(52, .bool)] [0, 6, 7, 10] (.k .z
 (.cond 35 36 .l (.k .z
 (.cond 37 38 .l .z))))
 (.cond 17 18 (.k (.t [.q, .s [.int .i32, .slice, .bool]])
 .z) (.cut [(64, .bool)] [0, 6, 7, 10] (.k .z
 (.cond 29 30 .l (.k .z
 (.cond 31 32 .l (.k .z
 (.cond 33 34 .l .z))))))
 (.cond 19 20 .z (.k .z
 (.cond 21 22 .z (.k .z
 (.cond 23 24 (.k (.t [.q, .s [.int .i64]])
 (.k (.k .z
 (.cond 25 26 .zl .l))
 (.k (.t [.q, .q, .q, .q, .s [.int .i64]])
 (.k (.k .z
 (.cond 27 28 .zl .l))
 .z)))) .z))))))))))))))))))))))))
 (.k (.k .z
 (.cond 1 2 .z .l))
 .zl))))
theorem c135 (src : Ptr) (aa ab : Nat) (t : Int) (w : World) (R : RR) (hvc : VC135 src aa ab t w R) : CR 135 [.slice src aa ab, .int .u8 t] w R :=
 vcc (fn := f135) (ann := an135) hvc (by kernel_rfl) (by kernel_rfl)
def VC200 (src : Ptr) (ab ac : Nat) (t : Int) (w : World) (R : RR) : Prop :=
 Calls prog 135 ⟨[.slice src ab ac, .int .u8 t]⟩ w fun e w1 => ∃ x12 : Int, ∃ aa : Bool, e = .returned (.tuple ⟨[.int .i32 x12, .bool aa]⟩) ∧
 ((!aa) = true →
 R (.tuple ⟨[.slice none 0 0, .slice src ab ac, .bool false]⟩) w1) ∧ ((!aa) = false →
 ∃ x19 : Int, IntKind.i64.wrap x12 = x19 ∧
 (decide ((ab : Int) < x19) = true →
 R (.tuple ⟨[.slice none 0 0, .slice src ab ac, .bool false]⟩) w1) ∧ (decide ((ab : Int) < x19) = false →
 ((0 : Int) ≤ x12 ∧ x12 ≤ (ac : Int)) ∧
 ((0 : Int) ≤ x12 ∧ x12 ≤ (ab : Int) ∧ (ab : Int) ≤ (ac : Int)) ∧
 R (.tuple ⟨[.slice src x12.toNat ac, .slice (slAddr src ac x12.toNat 1) (ab - x12.toNat) (ac - x12.toNat), .bool true]⟩) w1.drew))
def an200 : Ann :=
 .k .z
 (.k (.t [.q, .q, .s [.int .i32, .bool]])
 (.k (.k (.t [.q, .q, .q, .gs .n 1 2])
 (.on 2 (.cond 3 4 .zl .l) (.yes .zl)))
 (.k (.reg (.loads (.take 0 (.q) (.take 1 (.q) (.take 2 (.q) (.take 3 (.q) (.take 4 (.q) (.take 5 (.q) (.take 6 (.q) (.take 7 (.q) (.take 8 (.q) .done)))))))))))
 .l)))
theorem c200 (src : Ptr) (aa ab : Nat) (t : Int) (w : World) (R : RR) (hvc : VC200 src aa ab t w R) : CR 200 [.slice src aa ab, .int .u8 t] w R :=
 vcc (fn := f200) (ann := an200) hvc (by kernel_rfl) (by kernel_rfl)
def VC138 (src : Ptr) (ac ad : Nat) (t : Int) (w : World) (R : RR) : Prop :=
 ∀ w1, w1 = w.alloc (.cells ⟨[.int .u8 0, .slice none 0 0]⟩ 92) →
 Calls prog 200 ⟨[.slice src ac ad, .int .u8 t]⟩ w1 fun e w2 => ∃ (x13 : Ptr) (ae af : Nat), ∃ (ab : Ptr) (ag ah : Nat), ∃ aa : Bool, e = .returned (.tuple ⟨[.slice x13 ae af, .slice ab ag ah, .bool aa]⟩) ∧
 ((!aa) = true →
 ∃ w3, (Instr.storeAt 92 (.pointer (some ⟨w.heap.size, 0, none⟩)) (.agg ⟨[.int .u8 0, .slice none 0 0]⟩)).run prog w2 = .ok () w3 ∧
 ∃ r : List Value, LoadsRow prog 92 w3 ⟨w.heap.size, 0, none⟩ r ∧ R (.tuple ⟨[.agg ⟨r⟩, .slice src ac ad, .bool false]⟩) w3) ∧ ((!aa) = false →
 ∃ w4, (Instr.storeAt 92 (.pointer (some ⟨w.heap.size, 0, none⟩)) (.agg ⟨[.int .u8 t, .slice x13 ae af]⟩)).run prog w2 = .ok () w4 ∧
 ∃ r_1 : List Value, LoadsRow prog 92 w4 ⟨w.heap.size, 0, none⟩ r_1 ∧ R (.tuple ⟨[.agg ⟨r_1⟩, .slice ab ag ah, .bool true]⟩) w4)
def an138 : Ann :=
 .k .z
 (.k (.t [.q, .q, .s [.slice, .slice, .bool]])
 (.k (.k .z
 (.cond 1 2 .zl .l))
 .zl))
theorem c138 (src : Ptr) (aa ab : Nat) (t : Int) (w : World) (R : RR) (hvc : VC138 src aa ab t w R) : CR 138 [.slice src aa ab, .int .u8 t] w R :=
 vcc (fn := f138) (ann := an138) hvc (by kernel_rfl) (by kernel_rfl)
def VC201 (src : Ptr) (ac ad : Nat) (w : World) (R : RR) : Prop :=
 Calls prog 73 ⟨[.slice src ac ad]⟩ w fun e w1 => ∃ x10 : Int, ∃ (ab : Ptr) (ae af : Nat), ∃ aa : Bool, e = .returned (.tuple ⟨[.int .i32 x10, .slice ab ae af, .bool aa]⟩) ∧
 ((!aa) = true →
 R (.tuple ⟨[.string (mkS []), .slice src ac ad, .bool false]⟩) w1) ∧ ((!aa) = false →
 ((0 : Int) ≤ 4 ∧ 4 ≤ (ac : Int) ∧ (ac : Int) ≤ (ad : Int)) ∧
 ∃ x21 : Int, IntKind.i64.wrap x10 = x21 ∧
 (decide ((((ac - 4) : Nat) : Int) < x21) = true →
 R (.tuple ⟨[.string (mkS []), .slice src ac ad, .bool false]⟩) w1) ∧ (decide ((((ac - 4) : Nat) : Int) < x21) = false →
 (decide (x10 = 0) = true →
 R (.tuple ⟨[.string (mkS []), .slice src ac ad, .bool false]⟩) w1) ∧ (decide (x10 = 0) = false →
 ∃ f : List (Addr × Value), Kept w1 f ∧
 ∃ x30 : Int, IntKind.i32.wrap (x10 - 1) = x30 ∧
 ((0 : Int) ≤ x30 ∧ x30 ≤ (af : Int)) ∧
 ((0 : Int) ≤ x10 ∧ x10 ≤ (ae : Int) ∧ (ae : Int) ≤ (af : Int)) ∧
 ∃ x32 : Bs, ∃ w2, (convert 23 9 (.slice ab x30.toNat af)).run prog w1.drew = .ok (.string (mkS x32)) w2 ∧
 R (.tuple ⟨[.string (mkS x32), .slice (slAddr ab af x10.toNat 1) (ae - x10.toNat) (af - x10.toNat), .bool true]⟩) w2)))
def an201 : Ann :=
 .k .z
 (.k (.t [.q, .s [.int .i32, .slice, .bool]])
 (.k (.k .z
 (.cond 1 2 .zl .l))
 (.k (.k (.t [.q, .q, .q, .q, .q, .q, .q, .gs .n 3 4])
 (.on 4 (.cond 5 6 .zl .l) (.yes .zl)))
 (.k (.reg (.held [4] (.take 0 (.q) (.take 1 (.q) (.take 2 (.q) (.take 3 (.q) (.take 5 (.q) (.take 6 (.q) (.take 7 (.q) (.run 4 (.s [.str]) (.take 8 (.q) (.take 9 (.q) (.take 10 (.q) .done))) .done))))))))))
 .l))))
theorem c201 (src : Ptr) (aa ab : Nat) (w : World) (R : RR) (hvc : VC201 src aa ab w R) : CR 201 [.slice src aa ab] w R :=
 vcc (fn := f201) (ann := an201) hvc (by kernel_rfl) (by kernel_rfl)
def VC205 (src : Ptr) (ac ad : Nat) (w : World) (R : RR) : Prop :=
 Calls prog 73 ⟨[.slice src ac ad]⟩ w fun e w1 => ∃ x10 : Int, ∃ (ab : Ptr) (ae af : Nat), ∃ aa : Bool, e = .returned (.tuple ⟨[.int .i32 x10, .slice ab ae af, .bool aa]⟩) ∧
 ((!aa) = true →
 R (.tuple ⟨[.slice none 0 0, .slice src ac ad, .bool false]⟩) w1) ∧ ((!aa) = false →
 (decide (x10 < 4) = true →
 R (.tuple ⟨[.slice none 0 0, .slice src ac ad, .bool false]⟩) w1) ∧ (decide (x10 < 4) = false →
 ∃ x23 : Int, IntKind.i64.wrap x10 = x23 ∧
 (decide ((ac : Int) < x23) = true →
 R (.tuple ⟨[.slice none 0 0, .slice src ac ad, .bool false]⟩) w1) ∧ (decide ((ac : Int) < x23) = false →
 ((0 : Int) ≤ x10 ∧ x10 ≤ (ad : Int)) ∧
 ((0 : Int) ≤ x10 ∧ x10 ≤ (ac : Int) ∧ (ac : Int) ≤ (ad : Int)) ∧
 R (.tuple ⟨[.slice src x10.toNat ad, .slice (slAddr src ad x10.toNat 1) (ac - x10.toNat) (ad - x10.toNat), .bool true]⟩) w1.drew)))
def an205 : Ann :=
 .k .z
 (.k (.t [.q, .s [.int .i32, .slice, .bool]])
 (.k (.k .z
 (.cond 1 2 .zl .l))
 (.k (.k .z
 (.cond 3 4 .zl .l))
 (.k (.k .z
 (.cond 5 6 .zl .l))
 (.k (.reg (.loads (.take 0 (.q) (.take 1 (.q) (.take 2 (.q) (.take 3 (.q) (.take 4 (.q) (.take 5 (.q) (.take 6 (.q) (.take 7 (.q) (.take 8 (.q) .done)))))))))))
 .l)))))
theorem c205 (src : Ptr) (aa ab : Nat) (w : World) (R : RR) (hvc : VC205 src aa ab w R) : CR 205 [.slice src aa ab] w R :=
 vcc (fn := f205) (ann := an205) hvc (by kernel_rfl) (by kernel_rfl)
def VC139 (src : Ptr) (ac ad : Nat) (w : World) (R : RR) : Prop :=
 Calls prog 201 ⟨[.slice src ac ad]⟩ w fun e w1 => ∃ x6 : Bs, ∃ (ab : Ptr) (ae af : Nat), ∃ aa : Bool, e = .returned (.tuple ⟨[.string (mkS x6), .slice ab ae af, .bool aa]⟩) ∧
 R (.tuple ⟨[.string (mkS x6), .slice ab ae af, .bool aa]⟩) w1
def an139 : Ann :=
 .k .z
 (.k (.t [.q, .s [.str, .slice, .bool]])
 .l)
theorem c139 (src : Ptr) (aa ab : Nat) (w : World) (R : RR) (hvc : VC139 src aa ab w R) : CR 139 [.slice src aa ab] w R :=
 vcc (fn := f139) (ann := an139) hvc (by kernel_rfl) (by kernel_rfl)
def VC143 (src : Ptr) (ac ad : Nat) (w : World) (R : RR) : Prop :=
 Calls prog 205 ⟨[.slice src ac ad]⟩ w fun e w1 => ∃ (x6 : Ptr) (ae af : Nat), ∃ (ab : Ptr) (ag ah : Nat), ∃ aa : Bool, e = .returned (.tuple ⟨[.slice x6 ae af, .slice ab ag ah, .bool aa]⟩) ∧
 R (.tuple ⟨[.slice x6 ae af, .slice ab ag ah, .bool aa]⟩) w1
def an143 : Ann :=
 .k .z
 (.k (.t [.q, .s [.slice, .slice, .bool]])
 .l)
theorem c143 (src : Ptr) (aa ab : Nat) (w : World) (R : RR) (hvc : VC143 src aa ab w R) : CR 143 [.slice src aa ab] w R :=
 vcc (fn := f143) (ann := an143) hvc (by kernel_rfl) (by kernel_rfl)
def VC144 (src : Ptr) (ac ad : Nat) (w : World) (R : RR) : Prop :=
 Calls prog 205 ⟨[.slice src ac ad]⟩ w fun e w1 => ∃ (x6 : Ptr) (ae af : Nat), ∃ (ab : Ptr) (ag ah : Nat), ∃ aa : Bool, e = .returned (.tuple ⟨[.slice x6 ae af, .slice ab ag ah, .bool aa]⟩) ∧
 R (.tuple ⟨[.slice x6 ae af, .slice ab ag ah, .bool aa]⟩) w1
def an144 : Ann :=
 .k .z
 (.k (.t [.q, .s [.slice, .slice, .bool]])
 .l)
theorem c144 (src : Ptr) (aa ab : Nat) (w : World) (R : RR) (hvc : VC144 src aa ab w R) : CR 144 [.slice src aa ab] w R :=
 vcc (fn := f144) (ann := an144) hvc (by kernel_rfl) (by kernel_rfl)
def VC145 (ex : Ptr) (ab ac : Nat) (w : World) (R : RR) : Prop :=
 ∀ w1, w1 = w.alloc (.cells ⟨[.int .u8 0, .slice none 0 0]⟩ 92) →
 Calls prog 206 ⟨[.slice ex ab ac]⟩ w1 fun e w2 => ∃ x7 : List Value, e = .returned (.tuple ⟨[.agg ⟨x7⟩, .nilIface]⟩) ∧
 ∀ w3, w3 = w2.alloc (.cells ⟨[.int .u8 0, .slice none 0 0]⟩ 92) →
 ∃ w4, (Instr.storeAt 92 (.pointer (some ⟨w2.heap.size, 0, none⟩)) (.agg ⟨x7⟩)).run prog w3 = .ok () w4 ∧
 ∃ x10 : Int, ∃ (aa : Ptr) (ad ae : Nat), LoadsRow prog 92 w4 ⟨w2.heap.size, 0, none⟩ [.int .u8 x10, .slice aa ad ae] ∧
 ∃ w5, (Instr.storeAt 92 (.pointer (some ⟨w.heap.size, 0, none⟩)) (.agg ⟨[.int .u8 x10, .slice aa ad ae]⟩)).run prog w4 = .ok () w5 ∧
 ∃ r : List Value, LoadsRow prog 92 w5 ⟨w.heap.size, 0, none⟩ r ∧ R (.agg ⟨r⟩) w5
def an145 : Ann :=
 .k .z
 (.k (.t [.q, .s [.agg, .nil]])
 (.k (.t [.s [.int .u8, .slice]])
 .l))
theorem c145 (ex : Ptr) (aa ab : Nat) (w : World) (R : RR) (hvc : VC145 ex aa ab w R) : CR 145 [.slice ex aa ab] w R :=
 vcc (fn := f145) (ann := an145) hvc (by kernel_rfl) (by kernel_rfl)
def VC206 (ex : Ptr) (aj ak : Nat) (w : World) (R : RR) : Prop :=
 ∀ w1, w1 = w.alloc (.cells ⟨[.int .u8 0, .slice none 0 0]⟩ 92) →
 (decide ((aj : Int) = 0) = true →
 ∃ w2, (Instr.storeAt 92 (.pointer (some ⟨w.heap.size, 0, none⟩)) (.agg ⟨[.int .u8 0, .slice none 0 0]⟩)).run prog w1 = .ok () w2 ∧
 ∃ r : List Value, LoadsRow prog 92 w2 ⟨w.heap.size, 0, none⟩ r ∧ R (.tuple ⟨[.agg ⟨r⟩, .iface 311 (.string (mkS [101, 108, 101, 109, 101, 110, 116, 32, 105, 115, 32, 109, 105, 115, 115, 105, 110, 103, 32, 116, 121, 112, 101]))]⟩) w2) ∧ (decide ((aj : Int) = 0) = false →
 ((0 : Int) ≤ 1 ∧ 1 ≤ (aj : Int) ∧ (aj : Int) ≤ (ak : Int)) ∧
 Calls prog 136 ⟨[.slice (slAddr ex ak 1 1) (aj - 1) (ak - 1), .int .u8 0]⟩ w1 fun e w3 => ∃ x15 : Int, e = .returned (.int .i64 x15) ∧
 (decide (x15 = (-1)) = true →
 ∃ w4, (Instr.storeAt 92 (.pointer (some ⟨w.heap.size, 0, none⟩)) (.agg ⟨[.int .u8 0, .slice none 0 0]⟩)).run prog w3 = .ok () w4 ∧
 ∃ r_1 : List Value, LoadsRow prog 92 w4 ⟨w.heap.size, 0, none⟩ r_1 ∧ R (.tuple ⟨[.agg ⟨r_1⟩, .iface 311 (.string (mkS [101, 108, 101, 109, 101, 110, 116, 32, 105, 115, 32, 109, 105, 115, 115, 105, 110, 103, 32, 107, 101, 121]))]⟩) w4) ∧ (decide (x15 = (-1)) = false →
 ∃ f : List (Addr × Value), Kept w3 f ∧
 ∃ x23 : Int, IntKind.i64.wrap (x15 + 2) = x23 ∧
 ((0 : Int) ≤ x23 ∧ x23 ≤ (aj : Int) ∧ (aj : Int) ≤ (ak : Int)) ∧
 ((0 : Int) ≤ 0 ∧ 0 < (aj : Int)) ∧ ∃ exa : Addr, ex = some exa ∧
 ∃ x27 : Int, (exa, .int .u8 x27) ∈ f ∧
 (Calls prog 138 ⟨[.slice (slAddr ex ak x23.toNat 1) (aj - x23.toNat) (ak - x23.toNat), .int .u8 x27]⟩ w3.drew fun e w5 => ∃ x28 : List Value, ∃ (af : Ptr) (al am : Nat), ∃ aa : Bool, e = .returned (.tuple ⟨[.agg ⟨x28⟩, .slice af al am, .bool aa]⟩) ∧
 ∀ w6, w6 = w5.alloc (.cells ⟨[.int .u8 0, .slice none 0 0]⟩ 92) →
 Kept w6 f ∧ ∃ w7, (Instr.storeAt 92 (.pointer (some ⟨w5.heap.size, 0, none⟩)) (.agg ⟨x28⟩)).run prog w6 = .ok () w7 ∧
 ((!aa) = true →
 Calls prog 241 ⟨[.slice ex aj ak, .slice af al am]⟩ w7 fun e w8 => ∃ x37 : List Value, e = .returned (.agg ⟨x37⟩) ∧
 ∃ w9, (Instr.storeAt 92 (.pointer (some ⟨w.heap.size, 0, none⟩)) (.agg ⟨[.int .u8 0, .slice none 0 0]⟩)).run prog w8 = .ok () w9 ∧
 ∃ r_2 : List Value, LoadsRow prog 92 w9 ⟨w.heap.size, 0, none⟩ r_2 ∧ R (.tuple ⟨[.agg ⟨r_2⟩, .iface 313 (.agg ⟨x37⟩)]⟩) w9) ∧ ((!aa) = false →
 ∃ x39 : Int, ∃ (ag : Ptr) (ao ap : Nat), LoadsRow prog 92 w7 ⟨w5.heap.size, 0, none⟩ [.int .u8 x39, .slice ag ao ap] ∧
 ∃ w10, (Instr.storeAt 92 (.pointer (some ⟨w.heap.size, 0, none⟩)) (.agg ⟨[.int .u8 x39, .slice ag ao ap]⟩)).run prog w7 = .ok () w10 ∧
 ∃ r_3 : List Value, LoadsRow prog 92 w10 ⟨w.heap.size, 0, none⟩ r_3 ∧ R (.tuple ⟨[.agg ⟨r_3⟩, .nilIface]⟩) w10)) ∧ (∀ w11, w11 = w3.drew.alloc (.cells ⟨[.int .u8 0, .slice none 0 0]⟩ 92) →
 Kept w11 f ∧ Calls prog 138 ⟨[.slice (slAddr ex ak x23.toNat 1) (aj - x23.toNat) (ak - x23.toNat), .int .u8 x27]⟩ w11 fun e w12 => ∃ ab : List Value, ∃ (ah : Ptr) (aq ar : Nat), ∃ ac : Bool, e = .returned (.tuple ⟨[.agg ⟨ab⟩, .slice ah aq ar, .bool ac]⟩) ∧
 ∃ w13, (Instr.storeAt 92 (.pointer (some ⟨w3.drew.heap.size, 0, none⟩)) (.agg ⟨ab⟩)).run prog w12 = .ok () w13 ∧
 ((!ac) = true →
 Calls prog 241 ⟨[.slice ex aj ak, .slice ah aq ar]⟩ w13 fun e w14 => ∃ ad : List Value, e = .returned (.agg ⟨ad⟩) ∧
 ∃ w15, (Instr.storeAt 92 (.pointer (some ⟨w.heap.size, 0, none⟩)) (.agg ⟨[.int .u8 0, .slice none 0 0]⟩)).run prog w14 = .ok () w15 ∧
 ∃ r_4 : List Value, LoadsRow prog 92 w15 ⟨w.heap.size, 0, none⟩ r_4 ∧ R (.tuple ⟨[.agg ⟨r_4⟩, .iface 313 (.agg ⟨ad⟩)]⟩) w15) ∧ ((!ac) = false →
 ∃ ae : Int, ∃ (ai : Ptr) (au av : Nat), LoadsRow prog 92 w13 ⟨w3.drew.heap.size, 0, none⟩ [.int .u8 ae, .slice ai au av] ∧
 ∃ w16, (Instr.storeAt 92 (.pointer (some ⟨w.heap.size, 0, none⟩)) (.agg ⟨[.int .u8 ae, .slice ai au av]⟩)).run prog w13 = .ok () w16 ∧
 ∃ r_5 : List Value, LoadsRow prog 92 w16 ⟨w.heap.size, 0, none⟩ r_5 ∧ R (.tuple ⟨[.agg ⟨r_5⟩, .nilIface]⟩) w16))))
def an206 : Ann :=
 .k .z
 (.k (.k .z
 (.cond 1 2 .zl .l))
 (.k (.t [.q, .q, .s [.int .i64]])
 (.k (.k .z
 (.cond 3 4 .zl .l))
 (.k (.reg (.held [7, 13] (.take 0 (.q) (.take 1 (.q) (.take 2 (.q) (.take 3 (.q) (.take 4 (.q) (.take 5 (.s []) (.take 6 (.s [.int .u8]) (.run 7 (.s [.agg, .slice, .bool]) (.take 8 (.q) (.take 9 (.q) (.take 10 (.q) (.take 11 (.q) (.run 12 (.q) (.run 13 (.q) (.take 14 (.q) (.take 15 (.q) .done)) .done) .done))))) (.run 12 (.q) (.run 7 (.s [.agg, .slice, .bool]) (.take 8 (.q) (.take 9 (.q) (.take 10 (.q) (.take 11 (.q) (.run 13 (.q) (.take 14 (.q) (.take 15 (.q) .done)) .done))))) .done) .done)))))))))))
 (.k (.k .z
 (.cond 5 6 (.k (.t [.q, .q, .q, .s [.agg]])
 .l) .l))
 (.k (.t [.s [.int .u8, .slice]])
 .l))))))
theorem c206 (ex : Ptr) (aa ab : Nat) (w : World) (R : RR) (hvc : VC206 ex aa ab w R) : CR 206 [.slice ex aa ab] w R :=
 vcc (fn := f206) (ann := an206) hvc (by kernel_rfl) (by kernel_rfl)
def VC81 (ac : Int) (ad : Ptr) (ae af : Nat) (w : World) (R : RR) : Prop :=
 ∀ w1, w1 = w.alloc (.cells ⟨[.int .u8 ac, .slice ad ae af]⟩ 92) →
 ∃ x8 : Int, w1.cell? ⟨w.heap.size, 0, none⟩ = some (.int .u8 x8) ∧
 ((!decide (x8 = 2)) = true →
 R (.tuple ⟨[.string (mkS []), .bool false]⟩) w1) ∧ ((!decide (x8 = 2)) = false →
 ∃ (x12 : Ptr) (ag ah : Nat), w1.cell? ⟨w.heap.size, 1, none⟩ = some (.slice x12 ag ah) ∧
 Calls prog 139 ⟨[.slice x12 ag ah]⟩ w1 fun e w2 => ∃ x13 : Bs, ∃ (ab : Ptr) (ai aj : Nat), ∃ aa : Bool, e = .returned (.tuple ⟨[.string (mkS x13), .slice ab ai aj, .bool aa]⟩) ∧
 ((!aa) = true →
 R (.tuple ⟨[.string (mkS []), .bool false]⟩) w2) ∧ ((!aa) = false →
 R (.tuple ⟨[.string (mkS x13), .bool true]⟩) w2))
def an81 : Ann :=
 .k .z
 (.k (.k (.t [.q, .s [.int .u8]])
 (.cond 1 2 .zl .l))
 (.k (.t [.q, .s [.slice], .s [.str, .slice, .bool]])
 (.k (.k .z
 (.cond 3 4 .zl .l))
 .zl)))
theorem c81 (aa : Int) (ab : Ptr) (ac ad : Nat) (w : World) (R : RR) (hvc : VC81 aa ab ac ad w R) : CR 81 [.agg ⟨[.int .u8 aa, .slice ab ac ad]⟩] w R :=
 vcc (fn := f81) (ann := an81) hvc (by kernel_rfl) (by kernel_rfl)
def VC83 (ac : Int) (ad : Ptr) (ae af : Nat) (w : World) (R : RR) : Prop :=
 ∀ w1, w1 = w.alloc (.cells ⟨[.int .u8 ac, .slice ad ae af]⟩ 92) →
 ∃ x8 : Int, w1.cell? ⟨w.heap.size, 0, none⟩ = some (.int .u8 x8) ∧
 ((!decide (x8 = 3)) = true →
 R (.tuple ⟨[.slice none 0 0, .bool false]⟩) w1) ∧ ((!decide (x8 = 3)) = false →
 ∃ (x12 : Ptr) (ag ah : Nat), w1.cell? ⟨w.heap.size, 1, none⟩ = some (.slice x12 ag ah) ∧
 Calls prog 143 ⟨[.slice x12 ag ah]⟩ w1 fun e w2 => ∃ (x13 : Ptr) (ai aj : Nat), ∃ (ab : Ptr) (ak al : Nat), ∃ aa : Bool, e = .returned (.tuple ⟨[.slice x13 ai aj, .slice ab ak al, .bool aa]⟩) ∧
 ((!aa) = true →
 R (.tuple ⟨[.slice none 0 0, .bool false]⟩) w2) ∧ ((!aa) = false →
 R (.tuple ⟨[.slice x13 ai aj, .bool true]⟩) w2))
def an83 : Ann :=
 .k .z
 (.k (.k (.t [.q, .s [.int .u8]])
 (.cond 1 2 .zl .l))
 (.k (.t [.q, .s [.slice], .s [.slice, .slice, .bool]])
 (.k (.k .z
 (.cond 3 4 .zl .l))
 .zl)))
theorem c83 (aa : Int) (ab : Ptr) (ac ad : Nat) (w : World) (R : RR) (hvc : VC83 aa ab ac ad w R) : CR 83 [.agg ⟨[.int .u8 aa, .slice ab ac ad]⟩] w R :=
 vcc (fn := f83) (ann := an83) hvc (by kernel_rfl) (by kernel_rfl)
def VC84 (ac : Int) (ad : Ptr) (ae af : Nat) (w : World) (R : RR) : Prop :=
 ∀ w1, w1 = w.alloc (.cells ⟨[.int .u8 ac, .slice ad ae af]⟩ 92) →
 ∃ x8 : Int, w1.cell? ⟨w.heap.size, 0, none⟩ = some (.int .u8 x8) ∧
 ((!decide (x8 = 4)) = true →
 R (.tuple ⟨[.slice none 0 0, .bool false]⟩) w1) ∧ ((!decide (x8 = 4)) = false →
 ∃ (x12 : Ptr) (ag ah : Nat), w1.cell? ⟨w.heap.size, 1, none⟩ = some (.slice x12 ag ah) ∧
 Calls prog 144 ⟨[.slice x12 ag ah]⟩ w1 fun e w2 => ∃ (x13 : Ptr) (ai aj : Nat), ∃ (ab : Ptr) (ak al : Nat), ∃ aa : Bool, e = .returned (.tuple ⟨[.slice x13 ai aj, .slice ab ak al, .bool aa]⟩) ∧
 ((!aa) = true →
 R (.tuple ⟨[.slice none 0 0, .bool false]⟩) w2) ∧ ((!aa) = false →
 R (.tuple ⟨[.slice x13 ai aj, .bool true]⟩) w2))
def an84 : Ann :=
 .k .z
 (.k (.k (.t [.q, .s [.int .u8]])
 (.cond 1 2 .zl .l))
 (.k (.t [.q, .s [.slice], .s [.slice, .slice, .bool]])
 (.k (.k .z
 (.cond 3 4 .zl .l))
 .zl)))
theorem c84 (aa : Int) (ab : Ptr) (ac ad : Nat) (w : World) (R : RR) (hvc : VC84 aa ab ac ad w R) : CR 84 [.agg ⟨[.int .u8 aa, .slice ab ac ad]⟩] w R :=
 vcc (fn := f84) (ann := an84) hvc (by kernel_rfl) (by kernel_rfl)
end Go.Proofs.Tryz
set_option linter.unusedVariables false
namespace Go.Proofs.Tryz
open Go.Vc Go.RowKit
theorem not_zero_letters {s : List UInt8} (h : lettersUp s) : (0 : UInt8) ∉ s := fun hm => by
  have := h.1 0 hm
  have e : (0 : UInt8).toNat = 0 := rfl
  omega
theorem ret135 (T : Val → List UInt8) (x : Val) (r : List UInt8) (p : Option Addr) (n c : Nat) (w : World) (hown : OwnFits x) (hright : OwnRight x) (h15 : x.kind ≠ 15) (hplain : x.kind = 11 → (0 : UInt8) ∉ x.text) (hbody : (bodyB T x.kids).length ≤ 900000000)
    (hr : ReadsB w p (bytesT T x ++ r)) (hn : n = (bytesT T x ++ r).length) (hc : n ≤ c) (hlim : n ≤ 2000000000) :
    Ret 135 [.slice p n c, .int .u8 x.kind] w (.tuple ⟨[.int .i32 ((bytesT T x).length : Int), .bool true]⟩) := by
  have htl := textF_len hown.1
  have hml := textF_len hown.2.1
  have hbl := hown.2.2.1
  obtain ⟨V, hV⟩ : ∃ V, bytesT T x = V := ⟨_, rfl⟩
  rw [hV] at hr hn ⊢
  have hVn : V.length ≤ n := by rw [hn, List.length_append]; omega
  refine Ret.of (c135 _ _ _ _ w _ ?_)
  unfold VC135
  intro Kx hK
  have key : ∀ w1 (N : Int), Keeps w w1 → N = (V.length : Int) → Kx N true w1 := by
    intro w1 N hk e
    subst e
    exact hK _ _ w1 ⟨fun h => by have := of_decide_eq_true h; omega, fun _ => ⟨rfl, hk⟩⟩
  have len : ∀ (N : Int) (m : List UInt8), V = le32 N ++ m → 0 ≤ N → N ≤ 2147483647 → Ret 73 [.slice p n c] w (.tuple ⟨[.int .i32 N, .slice (slAddr p c 4 1) (n - 4) (c - 4), .bool true]⟩) := by
    intro N m e h0 h9
    refine ret73 p n c N (m ++ r) w h0 h9 ?_ ?_ hc
    · rw [← List.append_assoc, ← e]; exact hr
    · rw [← List.append_assoc, ← e]; exact hn
  intro K1 hK1
  have k1 : ∀ b : Bool, (b = true ↔ x.kind = 3 ∨ x.kind = 4) → K1 b w := by
    intro b hbk
    refine hK1 b w ⟨fun h => ?_, fun h => ?_⟩
    · have h := hbk.1 h
      have e : V = le32 (((bodyB T x.kids).length : Int) + 5) ++ (bodyB T x.kids ++ [0]) := by
        rw [← hV]; unfold bytesT
        rw [if_neg (by omega), if_neg (by omega), if_pos h]; simp [docB, List.append_assoc]
      have el := congrArg List.length e
      simp only [List.length_append, le32_len, List.length_cons, List.length_nil] at el
      exact (len _ _ e (by omega) (by omega)).go fun w3 hk3 => ⟨_, _, _, _, _, rfl, key w3 _ hk3 (by omega)⟩
    have n34 : ¬ (x.kind = 3 ∨ x.kind = 4) := fun e => by rw [hbk.2 e] at h; cases h
    refine ⟨fun h => ?_, fun h5 => ⟨fun h => ?_, fun h8 => ⟨fun h => ?_, fun h12 => ?_⟩⟩⟩
    · have h : x.kind = 5 := of_decide_eq_true h
      by_cases h2 : x.num = 2
      · have e : V = le32 ((x.b.length : Int) + 4) ++ ([2] ++ le32 (x.b.length : Int) ++ x.b) := by
          rw [← hV]; unfold bytesT
          rw [if_neg (by omega), if_neg (by omega), if_neg (by omega), if_pos h, if_pos h2]; simp [List.append_assoc]
        have el := congrArg List.length e
        simp only [List.length_append, le32_len, List.length_cons, List.length_nil] at el
        exact (len _ _ e (by omega) (by omega)).go fun w3 hk3 => ⟨_, _, _, _, _, rfl, _, i32w (by omega) (by omega), key w3 _ hk3 (by omega)⟩
      · have e : V = le32 (x.b.length : Int) ++ ([b8 x.num] ++ x.b) := by
          rw [← hV]; unfold bytesT
          rw [if_neg (by omega), if_neg (by omega), if_neg (by omega), if_pos h, if_neg h2]; simp [List.append_assoc]
        have el := congrArg List.length e
        simp only [List.length_append, le32_len, List.length_cons, List.length_nil] at el
        exact (len _ _ e (by omega) (by omega)).go fun w3 hk3 => ⟨_, _, _, _, _, rfl, _, i32w (by omega) (by omega), key w3 _ hk3 (by omega)⟩
    · have h : x.kind = 8 := of_decide_eq_true h
      refine key w _ (Keeps.refl w) ?_
      have e : V = [b8 x.num] := by
        rw [← hV]; unfold bytesT
        rw [if_neg (by omega), if_neg (by omega), if_neg (by omega), if_neg (by omega), if_neg (by omega), if_pos h]
      rw [e]; rfl
    · have h : x.kind = 12 := of_decide_eq_true h
      have h12 := hright.2.1 (.inr h)
      have e : V = le32 ((x.text.length : Int) + 1) ++ (x.text ++ [0] ++ x.b) := by
        rw [← hV]; unfold bytesT
        rw [if_neg (by omega), if_neg (by omega), if_neg (by omega), if_neg (by omega), if_neg (by omega), if_neg (by omega), if_neg (by omega), if_neg (by omega), if_neg (by omega), if_pos h]; simp [docText, List.append_assoc]
      have el := congrArg List.length e
      simp only [List.length_append, le32_len, List.length_cons, List.length_nil] at el
      exact (len _ _ e (by omega) (by omega)).go fun w3 hk3 => ⟨_, _, _, _, _, rfl, _, i32w (by omega) (by omega), key w3 _ hk3 (by omega)⟩
    have h5 : ¬ x.kind = 5 := of_decide_eq_false h5
    have h8 : ¬ x.kind = 8 := of_decide_eq_false h8
    have h12 : ¬ x.kind = 12 := of_decide_eq_false h12
    intro K2 hK2
    have k2 : ∀ b : Bool, (b = true ↔ x.kind = 9 ∨ x.kind = 1 ∨ x.kind = 18 ∨ x.kind = 17) → K2 b w := by
      intro b hbk
      refine hK2 b w ⟨fun h => ?_, fun h => ?_⟩
      · have h := hbk.1 h
        refine key w _ (Keeps.refl w) ?_
        have : V.length = 8 := by
          rw [← hV]; unfold bytesT
          by_cases h1 : x.kind = 1 ∨ x.kind = 17
          · rw [if_pos h1]; exact le64_len _
          · rw [if_neg h1, if_neg (by omega), if_neg n34, if_neg h5, if_neg (by omega), if_neg h8, if_pos (by omega)]; exact le64_len _
        omega
      have n9 : ¬ (x.kind = 9 ∨ x.kind = 1 ∨ x.kind = 18 ∨ x.kind = 17) := fun e => by rw [hbk.2 e] at h; cases h
      refine ⟨fun h => ?_, fun h19 => ⟨fun h => ?_, fun h16 => ?_⟩⟩
      · have h : x.kind = 19 := of_decide_eq_true h
        refine key w _ (Keeps.refl w) ?_
        have e : V = le64 x.bits ++ le64 x.high := by
          rw [← hV]; unfold bytesT
          rw [if_neg (by omega), if_neg (by omega), if_neg (by omega), if_neg (by omega), if_neg (by omega), if_neg (by omega), if_neg (by omega), if_neg (by omega), if_neg (by omega), if_neg (by omega), if_pos h]
        rw [e, List.length_append, le64_len, le64_len]; rfl
      · have h : x.kind = 16 := of_decide_eq_true h
        refine key w _ (Keeps.refl w) ?_
        have e : V = le32 x.num := by
          rw [← hV]; unfold bytesT
          rw [if_neg (by omega), if_neg (by omega), if_neg (by omega), if_neg (by omega), if_neg (by omega), if_neg (by omega), if_neg (by omega), if_pos h]
        rw [e, le32_len]; rfl
      have h19 : ¬ x.kind = 19 := of_decide_eq_false h19
      have h16 : ¬ x.kind = 16 := of_decide_eq_false h16
      intro K3 hK3
      have k3 : ∀ b : Bool, (b = true ↔ x.kind = 13 ∨ x.kind = 2 ∨ x.kind = 14) → K3 b w := by
        intro b hbk
        refine hK3 b w ⟨fun h => ?_, fun h => ?_⟩
        · have h := hbk.1 h
          have e : V = le32 ((x.text.length : Int) + 1) ++ (x.text ++ [0]) := by
            rw [← hV]; unfold bytesT
            rw [if_neg (by omega), if_pos (by omega)]; simp [docText, List.append_assoc]
          have el := congrArg List.length e
          simp only [List.length_append, le32_len, List.length_cons, List.length_nil] at el
          exact (len _ _ e (by omega) (by omega)).go fun w3 hk3 => ⟨_, _, _, _, _, rfl, _, i32w (by omega) (by omega), key w3 _ hk3 (by omega)⟩
        have n13 : ¬ (x.kind = 13 ∨ x.kind = 2 ∨ x.kind = 14) := fun e => by rw [hbk.2 e] at h; cases h
        have tl : V = if x.kind = 7 then x.b else if x.kind = 11 then x.text ++ [0] ++ x.more ++ [0] else [] := by
          rw [← hV]; unfold bytesT
          rw [if_neg (by omega), if_neg (by omega), if_neg n34, if_neg h5]
          by_cases h7 : x.kind = 7
          · rw [if_pos h7, if_pos h7]
          · rw [if_neg h7, if_neg h8, if_neg (by omega), if_neg h16, if_neg h7]
            by_cases h11 : x.kind = 11
            · rw [if_pos h11, if_pos h11]
            · rw [if_neg h11, if_neg h12, if_neg h19, if_neg h11]
        intro K4 hK4
        have k4 : ∀ b : Bool, (b = true ↔ x.kind = 127 ∨ x.kind = 255 ∨ x.kind = 10 ∨ x.kind = 6) → K4 b w := by
          intro b hbk
          refine hK4 b w ⟨fun h => ?_, fun h => ⟨fun h7 => ?_, fun h7 => ⟨fun h11 => ?_, fun h11 => ?_⟩⟩⟩
          · have h := hbk.1 h
            rw [if_neg (by omega), if_neg (by omega)] at tl
            exact key w _ (Keeps.refl w) (by rw [tl]; rfl)
          · have h7 : x.kind = 7 := of_decide_eq_true h7
            have h12 := hright.2.1 (.inl h7)
            rw [if_pos h7] at tl
            exact key w _ (Keeps.refl w) (by rw [tl]; omega)
          · have h7 : ¬ x.kind = 7 := of_decide_eq_false h7
            have h11 : x.kind = 11 := of_decide_eq_true h11
            rw [if_neg h7, if_pos h11] at tl
            have e1 : V ++ r = x.text ++ 0 :: (x.more ++ 0 :: r) := by rw [tl]; simp [List.append_assoc]
            rw [e1] at hr hn
            have hnl := hn
            simp only [List.length_append, List.length_cons] at hnl
            have hvl : V.length = x.text.length + x.more.length + 2 := by rw [tl]; simp; omega
            refine (ret136 p n c x.text _ w (hplain h11) hr hn).go fun w10 hk10 => ⟨_, rfl, fun h => by have := of_decide_eq_true h; omega, fun _ => ⟨((x.text.length + 1 : Nat) : Int), by rw [i64w (by omega) (by omega)]; omega, ⟨by omega, by omega, by omega⟩, ?_⟩⟩
            have hdr := reads_drop (hr.keeps hk10) (by omega : (x.text ++ 0 :: (x.more ++ 0 :: r)).length ≤ c) (x.text.length + 1)
            have ed : (x.text ++ 0 :: (x.more ++ 0 :: r)).drop (x.text.length + 1) = x.more ++ 0 :: r := by
              rw [List.drop_append]; simp
            rw [ed] at hdr
            refine (ret136 (slAddr p c (x.text.length + 1) 1) (n - (x.text.length + 1)) (c - (x.text.length + 1)) x.more r w10 (not_zero_letters (hown.2.2.2.2.2 h11)) hdr (by simp only [List.length_append, List.length_cons]; omega)).go fun w11 hk11 => ⟨_, rfl, fun h => by have := of_decide_eq_true h; omega, fun _ => ⟨_, i64w (by omega) (by omega), _, i64w (by omega) (by omega), _, i64w (by omega) (by omega), _, i32w (by omega) (by omega), key w11 _ (hk10.trans hk11) (by omega)⟩⟩
          · exfalso
            have hkn := hright.1
            have nn : ¬ (x.kind = 127 ∨ x.kind = 255 ∨ x.kind = 10 ∨ x.kind = 6) := fun e => by rw [hbk.2 e] at h; cases h
            simp only [knownB, Bool.or_eq_true, Bool.and_eq_true, decide_eq_true_eq] at hkn
            simp only [decide_eq_false_iff_not] at *
            omega
        exact ⟨fun h => k4 _ (by simp [of_decide_eq_true h]), fun h => ⟨fun h' => k4 _ (by simp [of_decide_eq_true h']), fun h' => ⟨fun h'' => k4 _ (by simp [of_decide_eq_true h'']), fun h'' => k4 _ (by simp [of_decide_eq_false h, of_decide_eq_false h', of_decide_eq_false h''])⟩⟩⟩
      exact ⟨fun h => k3 _ (by simp [of_decide_eq_true h]), fun h => ⟨fun h' => k3 _ (by simp [of_decide_eq_true h']), fun h' => k3 _ (by simp [of_decide_eq_false h, of_decide_eq_false h'])⟩⟩
    exact ⟨fun h => k2 _ (by simp [of_decide_eq_true h]), fun h => ⟨fun h' => k2 _ (by simp [of_decide_eq_true h']), fun h' => ⟨fun h'' => k2 _ (by simp [of_decide_eq_true h'']), fun h'' => k2 _ (by simp [of_decide_eq_false h, of_decide_eq_false h', of_decide_eq_false h''])⟩⟩⟩
  exact ⟨fun h => k1 _ (by simp [of_decide_eq_true h]), fun h => ⟨fun h' => k1 _ (by simp [of_decide_eq_true h']), fun h' => k1 _ (by simp [of_decide_eq_false h, of_decide_eq_false h', h15])⟩⟩
structure GoodB (T : Val → List UInt8) (x : Val) : Prop where
  own : OwnFits x
  right : OwnRight x
  code : x.kind ≠ 15
  plain : x.kind = 11 → (0 : UInt8) ∉ x.text
  body : (bodyB T x.kids).length ≤ 900000000
theorem kind_byte {x : Val} (h : OwnRight x) : ((b8 x.kind).toNat : Int) = x.kind := by
  have hkn := h.1
  simp only [knownB, Bool.or_eq_true, Bool.and_eq_true, decide_eq_true_eq] at hkn
  rw [b8_toNat]
  omega
theorem slAddr_zero (p : Option Addr) (c : Nat) : slAddr p c 0 1 = p := by
  unfold slAddr
  split
  · rfl
  · cases p with
    | none => rfl
    | some a => simp [Addr.add]
def elemV (name : List UInt8) (y : Val) (V : List UInt8) : List UInt8 := [b8 y.kind] ++ name ++ [0] ++ V
theorem elemV_len (name : List UInt8) (y : Val) (V : List UInt8) : (elemV name y V).length = name.length + 2 + V.length := by
  simp only [elemV, List.length_append, List.length_cons, List.length_nil]; omega
theorem ret76 (T : Val → List UInt8) (name : List UInt8) (y : Val) (V r : List UInt8) (hV : bytesT T y = V) (p : Option Addr) (n c : Nat) (w : World) (hg : GoodB T y) (hname : (0 : UInt8) ∉ name)
    (hr : ReadsB w p (elemV name y V ++ r)) (hn : n = (elemV name y V ++ r).length) (hc : n ≤ c) (hlim : n ≤ 2000000000) :
    Ret 76 [.slice p n c] w (.tuple ⟨[.slice p (elemV name y V).length c, .slice (slAddr p c (elemV name y V).length 1) (n - (elemV name y V).length) (c - (elemV name y V).length), .bool true]⟩) := by
  obtain ⟨L, hL⟩ : ∃ L, elemV name y V ++ r = L := ⟨_, rfl⟩
  have hEl := elemV_len name y V
  obtain ⟨E, hE⟩ : ∃ E, (elemV name y V).length = E := ⟨_, rfl⟩
  have hnE : n = E + r.length := by rw [hn, List.length_append, hE]
  rw [hE] at hEl ⊢
  rw [hL] at hr
  have hLn : L.length = n := by rw [hn, hL]
  have eL : L = b8 y.kind :: (name ++ (0 :: (V ++ r))) := by rw [← hL]; simp [elemV, List.append_assoc]
  have get0 : L[0]? = some (b8 y.kind) := by rw [eL]; rfl
  have getn : ∀ j, j < name.length → L[j + 1]? = name[j]? := fun j hj => by
    rw [eL, List.getElem?_cons_succ, List.getElem?_append_left hj]
  have getz : L[name.length + 1]? = some 0 := by
    rw [eL, List.getElem?_cons_succ, List.getElem?_append_right (Nat.le_refl _)]; simp
  have dropz : L.drop (name.length + 2) = V ++ r := by
    rw [eL, List.drop_succ_cons, List.drop_append]; simp
  obtain ⟨a, ha, hc0⟩ := hr 0 _ get0
  subst ha
  have e0 : a.add 0 = a := by simp [Addr.add]
  rw [e0] at hc0
  have kb := kind_byte hg.right
  refine Ret.of (c76 _ _ _ w _ ?_)
  unfold VC76
  refine ⟨fun h => by have := of_decide_eq_true h; omega, fun _ => ⟨⟨by omega, by omega⟩, a, rfl, _, hc0, ?_⟩⟩
  refine ⟨fun m i w1 => w1 = w ∧ ∃ k : Nat, i = (k + 1 : Nat) ∧ k ≤ name.length ∧ m = name.length - k, ⟨name.length, rfl, 0, rfl, by omega, rfl⟩, ?_⟩
  rintro m i w1 ⟨rfl, k, rfl, hk, rfl⟩
  refine ⟨fun hlt => ?_, fun hge => by have := of_decide_eq_false hge; omega⟩
  have eidx : (((k + 1 : Nat) : Int)).toNat * 1 = k + 1 := by omega
  refine ⟨⟨by omega, by omega⟩, a, rfl, ?_⟩
  rw [eidx]
  by_cases hkn : k < name.length
  · obtain ⟨b, hb⟩ : ∃ b, name[k]? = some b := ⟨_, List.getElem?_eq_getElem hkn⟩
    have hb0 : b ≠ 0 := fun e => hname (by rw [← e]; exact List.mem_of_getElem? hb)
    have hbn : ¬ ((b.toNat : Int) = 0) := fun e => hb0 (by apply UInt8.toNat_inj.1; show b.toNat = 0; omega)
    refine ⟨_, hr.at (j := k + 1) (b := b) (by rw [getn k hkn]; exact hb), fun _ => ⟨((k + 1 + 1 : Nat) : Int), by rw [i64w (by omega) (by omega)]; omega, name.length - (k + 1), by omega, rfl, k + 1, rfl, by omega, rfl⟩, fun h => ?_⟩
    exact absurd (of_decide_eq_true (bool_not_not h)) hbn
  · have hkk : k = name.length := by omega
    subst hkk
    refine ⟨_, hr.at (j := name.length + 1) (b := 0) getz, (fun h => by simp at h), fun _ => ⟨(fun h => by have := of_decide_eq_true h; omega), fun _ => ⟨((name.length + 2 : Nat) : Int), by rw [i64w (by omega) (by omega)]; omega, ⟨by omega, by omega, by omega⟩, ?_⟩⟩⟩
    rw [Int.toNat_natCast, kb]
    have hdr := reads_drop hr (by omega : L.length ≤ c) (name.length + 2)
    rw [dropz, ← hV] at hdr
    have h135 := ret135 T y r (slAddr (some a) c (name.length + 2) 1) (n - (name.length + 2)) (c - (name.length + 2)) w1 hg.own hg.right hg.code hg.plain hg.body hdr (by rw [hV, List.length_append]; omega) (by omega) (by omega)
    rw [hV] at h135
    refine h135.go fun w2 hk2 => ⟨_, _, rfl, (fun h => by cases h), fun _ => ⟨_, i64w (by omega) (by omega), ((E : Nat) : Int), by rw [i64w (by omega) (by omega)]; omega, (fun h => by have := of_decide_eq_true h; omega), fun _ => ⟨⟨by omega, by omega⟩, ⟨by omega, by omega, by omega⟩, rfl, hk2.trans ((Keeps.refl w2).drew)⟩⟩⟩
theorem stepF_small (s : List UInt8) (h : s ≠ []) : (stepF s).1 ≤ 4 ∧ ((stepF s).2.1 < 128 → (stepF s).1 = 1) := by
  obtain ⟨a, r, rfl⟩ : ∃ a r, s = a :: r := by cases s with | nil => exact absurd rfl h | cons a r => exact ⟨_, _, rfl⟩
  unfold stepF
  by_cases h0 : (runeF (a :: r)).1 = 0
  · rw [if_pos h0]; exact ⟨by show 1 ≤ 4; decide, fun _ => rfl⟩
  · rw [if_neg h0]
    simp only
    by_cases ha : a.toNat < 128
    · have e : runeF (a :: r) = (1, a.toNat) := by rw [runeF, if_pos ha]
      rw [e]; exact ⟨by show 1 ≤ 4; decide, fun _ => rfl⟩
    · have hb := rune_big a r (by omega) h0
      refine ⟨?_, fun hc => by omega⟩
      rw [runeF, if_neg ha] at h0 ⊢
      have hl : (lead a.toNat).1 ≤ 4 := by unfold lead; repeat' split
                                           all_goals simp
      generalize (lead a.toNat).1 = n at *
      unfold tailF at h0 ⊢
      repeat' split
      all_goals simp <;> omega
theorem piece_same (bs : List UInt8) (c : Nat) (h1 : 1 ≤ bs.length) (h4 : bs.length ≤ 4) (h : c < 128 → bs.length = 1) : bs.length ≤ (piece true bs c).length ∧ ((piece true bs c).length = bs.length → piece false bs c = bs) := by
  unfold piece hex2
  split
  · have := h (by omega); simp; omega
  · split
    · have := h (by omega); simp; omega
    · split
      · have := h (by omega); simp; omega
      · rename_i h3
        have h3' : ¬ (c < 32 ∨ (false = true ∧ (c = 60 ∨ c = 62 ∨ c = 38))) := by
          rintro (h | ⟨h, _⟩)
          · exact h3 (.inl h)
          · cases h
        rw [if_neg h3']
        split
        · simp only [List.length_append, List.length_cons, List.length_nil]; omega
        · exact ⟨Nat.le_refl _, fun _ => rfl⟩
theorem escF_same : ∀ (n : Nat) (s : List UInt8), s.length ≤ n → s.length ≤ (escF true s).length ∧ ((escF true s).length = s.length → escF false s = s)
  | 0, s, h => by
    have : s = [] := List.eq_nil_of_length_eq_zero (by omega)
    subst this; exact ⟨Nat.zero_le _, fun _ => rfl⟩
  | n + 1, s, h => by
    by_cases hs : s = []
    · subst hs; exact ⟨Nat.zero_le _, fun _ => rfl⟩
    · have h1 := stepF_pos s
      have h2 := stepF_le s hs
      obtain ⟨h3, h4⟩ := stepF_small s hs
      have hl : (s.take (stepF s).1).length = (stepF s).1 := by rw [List.length_take]; omega
      obtain ⟨p1, p2⟩ := piece_same (s.take (stepF s).1) (stepF s).2.1 (by omega) (by omega) (by omega)
      obtain ⟨q1, q2⟩ := escF_same n (s.drop (stepF s).1) (by rw [List.length_drop]; omega)
      have hd : (s.drop (stepF s).1).length = s.length - (stepF s).1 := List.length_drop
      rw [escF_cons true s hs, escF_cons false s hs, List.length_append]
      refine ⟨by omega, fun he => ?_⟩
      rw [p2 (by omega), q2 (by omega), List.take_append_drop]
end Go.Proofs.Tryz
set_option linter.unusedVariables false
namespace Go.Proofs.Tryz
open Go.Vc Go.RowKit Go.Sort
theorem esc_plain : ∀ (m : Nat) (s : List UInt8), s.length ≤ m → (escF true s).length = s.length → (0 : UInt8) ∉ s
  | 0, s, h, _ => by
    have : s = [] := List.eq_nil_of_length_eq_zero (by omega)
    subst this; simp
  | m + 1, s, h, he => by
    by_cases hs : s = []
    · subst hs; simp
    · have h1 := stepF_pos s
      have h2 := stepF_le s hs
      obtain ⟨h3, h4⟩ := stepF_small s hs
      have hl : (s.take (stepF s).1).length = (stepF s).1 := by rw [List.length_take]; omega
      obtain ⟨p1, _⟩ := piece_same (s.take (stepF s).1) (stepF s).2.1 (by omega) (by omega) (by omega)
      have q1 := (escF_same _ (s.drop (stepF s).1) (Nat.le_refl _)).1
      have hd : (s.drop (stepF s).1).length = s.length - (stepF s).1 := List.length_drop
      rw [escF_cons true s hs, List.length_append] at he
      have ih := esc_plain m (s.drop (stepF s).1) (by omega) (by omega)
      intro hm
      rw [← List.take_append_drop (stepF s).1 s] at hm
      rcases List.mem_append.1 hm with hm | hm
      · obtain ⟨i, hi⟩ := List.mem_iff_getElem?.1 hm
        have hil : i < (stepF s).1 := by rw [← hl]; exact (List.getElem?_eq_some_iff.1 hi).1
        rw [List.getElem?_take, if_pos hil] at hi
        obtain ⟨a, r, rfl⟩ : ∃ a r, s = a :: r := by cases s with | nil => exact absurd rfl hs | cons a r => exact ⟨_, _, rfl⟩
        by_cases ha : a.toNat < 128
        · have er : runeF (a :: r) = (1, a.toNat) := by rw [runeF, if_pos ha]
          have es : stepF (a :: r) = (1, a.toNat, true) := by unfold stepF; rw [er, if_neg Nat.one_ne_zero]
          rw [es] at hil he hl
          have hi0 : i = 0 := by simp only at hil; omega
          subst hi0
          have ha0 : a = 0 := by simpa using hi
          subst ha0
          have e0 : piece true (List.take (1, (0 : UInt8).toNat, true).1 ((0 : UInt8) :: r)) (1, (0 : UInt8).toNat, true).2.1 = [92, 117, 48, 48, 48, 48] := rfl
          rw [e0] at he
          rw [es] at q1
          have he' : 6 + (escF true r).length = r.length + 1 := he
          have q1' : r.length ≤ (escF true r).length := q1
          omega
        · by_cases h0 : (runeF (a :: r)).1 = 0
          · have es : (stepF (a :: r)).1 = 1 := by unfold stepF; rw [if_pos h0]
            rw [es] at hil
            have hi0 : i = 0 := by omega
            subst hi0
            have ha0 : a = 0 := by simpa using hi
            subst ha0; exact ha (by decide)
          · by_cases hi0 : i = 0
            · subst hi0
              have ha0 : a = 0 := by simpa using hi
              subst ha0; exact ha (by decide)
            · have hst : (stepF (a :: r)).1 = (runeF (a :: r)).1 := by unfold stepF; rw [if_neg h0]
              rw [hst] at hil
              rw [runeF, if_neg ha] at h0 hil
              generalize (lead a.toNat).1 = n at *
              unfold tailF at h0 hil
              split at h0
              · exact absurd rfl h0
              · rename_i hn
                rw [if_neg hn] at hil
                split at h0
                · rename_i hall
                  rw [if_pos hall] at hil
                  have hin : i < n := by
                    split at hil
                    · exact hil
                    · simp at hil
                  have hmem : (0 : UInt8) ∈ ((a :: r).take n).drop 1 := by
                    refine List.mem_of_getElem? (i := i - 1) ?_
                    rw [List.getElem?_drop, show 1 + (i - 1) = i by omega, List.getElem?_take, if_pos hin]; exact hi
                  have := List.all_eq_true.1 hall _ hmem
                  revert this; decide
                · exact absurd rfl h0
      · exact ih hm
theorem name_plain {n : List UInt8} (h : strF true n = 34 :: (n ++ [34])) : (0 : UInt8) ∉ n := by
  refine esc_plain n.length n (Nat.le_refl _) ?_
  have := congrArg List.length h
  unfold strF at this
  simp only [List.length_cons, List.length_append, List.length_nil] at this
  omega
structure OwnReady (F : Nat → List UInt8) (d : Nat) (x : Val) : Prop where
  good : GoodB (bytesV d) x
  noE : x.kind = 1 → (69 : UInt8) ∉ dblF F x.bits.toNat
  num : inI64 x.num
  bits : inU64 x.bits
  high : inU64 x.high
  blen : (bytesV (d + 1) x).length ≤ 5000000
  tlen : (longV F (d + 1) x).length ≤ 50000000
def NameOK (n : List UInt8) : Prop := n ≠ [] ∧ (0 : UInt8) ∉ n ∧ utf8F n = true ∧ n.length ≤ 300
def Ready (F : Nat → List UInt8) : Nat → Val → Prop
  | 0, x => OwnReady F 0 x ∧ x.kids = []
  | d + 1, x => OwnReady F (d + 1) x ∧ ((x.kind = 3 ∨ x.kind = 4) → ∀ n y, (n, y) ∈ x.kids → NameOK n ∧ Ready F d y)
theorem Ready.own {F : Nat → List UInt8} {d : Nat} {x : Val} (h : Ready F d x) : OwnReady F d x := by
  cases d <;> exact h.1
theorem ready_of {F : Nat → List UInt8} (hF : FloatIs F) (w : World) (ht : Tabs w) : ∀ (d : Nat) (x : Val) (bp kp : Option Addr) (bc kc : Nat), Hangs d w x bp bc kp kc → FitsV d x → RightV d x → LongV d x → NoEV F d x → nparts d x ≤ 1000 → Ready F d x := by
  intro d
  induction d with
  | zero =>
    intro x bp kp bc kc hh hf hr hl he hp
    have ho := hh.own
    have h1 := bytesV_len 0 x hf
    have h2 := longV_len hF w ht 0 x bp kp bc kc hh hf
    exact ⟨⟨⟨hf.own, hr, hl.own, fun h => plain_not (hr.2.2.2.2.1 h), by omega⟩, he.own, ho.2.2.2.1, ho.2.2.2.2.1, ho.2.2.2.2.2.1, by omega, by omega⟩, hf.2⟩
  | succ d ih =>
    intro x bp kp bc kc hh hf hr hl he hp
    have ho := hh.own
    have h1 := bytesV_len (d + 1) x hf
    have h2 := longV_len hF w ht (d + 1) x bp kp bc kc hh hf
    refine ⟨⟨⟨hf.own, hr.1, hl.own, fun h => plain_not (hr.1.2.2.2.2.1 h), by omega⟩, he.own, ho.2.2.2.1, ho.2.2.2.2.1, ho.2.2.2.2.2.1, by omega, by omega⟩, fun hk n y hm => ?_⟩
    obtain ⟨i, hi⟩ := List.mem_iff_getElem?.1 hm
    obtain ⟨ka, bp', bc', kp', kc', _, _, hy⟩ := hh.kid hi
    obtain ⟨d', hd', htn, hfy⟩ := hf.kid hi
    have hd'' : d = d' := by omega
    subst hd''
    obtain ⟨l1, l2, l3⟩ := hl.2 n y hm
    have hp' := nparts_kid (d := d) hm
    exact ⟨⟨l1, name_plain l2, textF_utf8 htn, textF_len htn⟩, ih y _ _ _ _ hy hfy (hr.2 (hk.elim .inl fun h => .inr (.inl h)) n y hm) l3 (he.2 n y hm) (by omega)⟩
theorem memT_utf8 {T : Val → List UInt8} {n : List UInt8} {y : Val} (hn : utf8F n = true) (hT : utf8F (T y) = true) : utf8F (memT T (n, y)) = true := by
  unfold memT
  exact utf8F_append (utf8_mid (asc_dec (by decide)) hn (asc_dec (by decide))) hT
theorem longV_utf8 {F : Nat → List UInt8} (hA : ∀ n, asc (F n)) : ∀ (d : Nat) (x : Val), Ready F d x → utf8F (longV F (d + 1) x) = true := by
  intro d
  induction d with
  | zero =>
    intro x h
    show utf8F (longT (longV F 0) (textV F true true 1) x) = true
    unfold longT
    rw [h.2]
    split
    · rfl
    · split
      · rfl
      · rename_i h3 h4
        exact ownT_utf8 hA _ x h.own.good.own h3 h4 h.own.good.code
  | succ d ih =>
    intro x h
    show utf8F (longT (longV F (d + 1)) (textV F true true (d + 1 + 1)) x) = true
    unfold longT
    split
    · rename_i h3
      refine utf8_mid (asc_dec (by decide)) (joinK_utf8 _ fun p hp => ?_) (asc_dec (by decide))
      obtain ⟨⟨n, y⟩, hm, rfl⟩ := List.mem_map.1 hp
      obtain ⟨hn, hy⟩ := h.2 (.inl h3) n y hm
      exact memT_utf8 hn.2.2.1 (ih y hy)
    · split
      · rename_i h4
        refine utf8_mid (asc_dec (by decide)) (joinK_utf8 _ fun p hp => ?_) (asc_dec (by decide))
        obtain ⟨⟨n, y⟩, hm, rfl⟩ := List.mem_map.1 hp
        exact ih y (h.2 (.inr h4) n y hm).2
      · rename_i h3 h4
        exact ownT_utf8 hA _ x h.own.good.own h3 h4 h.own.good.code
end Go.Proofs.Tryz
