/- Parts of a proof, joined: VS, B15. -/
import Derived.Test.YtfofafjemgfobaaGreatDoorX4
import Derived.Test.YtfofafjemgfobaaGreatDoorX19
set_option linter.unusedVariables false
set_option maxRecDepth 100000
namespace Go.Proofs.Tryz
open Go.Vc
def VC86 (ac : Int) (ad : Ptr) (ae af : Nat) (w : World) (R : RR) : Prop :=
 ∀ w1, w1 = w.alloc (.cells ⟨[.int .u8 ac, .slice ad ae af]⟩ 92) →
 ∃ x8 : Int, w1.cell? ⟨w.heap.size, 0, none⟩ = some (.int .u8 x8) ∧
 ((!decide (x8 = 1)) = true →
 R (.tuple ⟨[.float .f64 0, .bool false]⟩) w1) ∧ ((!decide (x8 = 1)) = false →
 ∃ (x12 : Ptr) (ag ah : Nat), w1.cell? ⟨w.heap.size, 1, none⟩ = some (.slice x12 ag ah) ∧
 Calls prog 146 ⟨[.slice x12 ag ah]⟩ w1 fun e w2 => ∃ x13 : Nat, ∃ (ab : Ptr) (ai aj : Nat), ∃ aa : Bool, e = .returned (.tuple ⟨[.float .f64 x13, .slice ab ai aj, .bool aa]⟩) ∧
 ((!aa) = true →
 R (.tuple ⟨[.float .f64 0, .bool false]⟩) w2) ∧ ((!aa) = false →
 R (.tuple ⟨[.float .f64 x13, .bool true]⟩) w2))
def an86 : Ann :=
 .k .z
 (.k (.k (.t [.q, .s [.int .u8]])
 (.cond 1 2 .zl .l))
 (.k (.t [.q, .s [.slice], .s [.float, .slice, .bool]])
 (.k (.k .z
 (.cond 3 4 .zl .l))
 .zl)))
theorem c86 (aa : Int) (ab : Ptr) (ac ad : Nat) (w : World) (R : RR) (hvc : VC86 aa ab ac ad w R) : CR 86 [.agg ⟨[.int .u8 aa, .slice ab ac ad]⟩] w R :=
 vcc (fn := f86) (ann := an86) hvc (by kernel_rfl) (by kernel_rfl)
def VC146 (src : Ptr) (ac ad : Nat) (w : World) (R : RR) : Prop :=
 Calls prog 207 ⟨[.slice src ac ad]⟩ w fun e w1 => ∃ x9 : Int, ∃ (ab : Ptr) (ae af : Nat), ∃ aa : Bool, e = .returned (.tuple ⟨[.int .u64 x9, .slice ab ae af, .bool aa]⟩) ∧
 ((!aa) = true →
 R (.tuple ⟨[.float .f64 0, .slice ab ae af, .bool false]⟩) w1) ∧ ((!aa) = false →
 ∃ x17 : Nat, ∃ w2, (callFunc 26 ⟨[.int .u64 x9]⟩).run prog w1 = .ok (.value (.float .f64 x17)) w2 ∧
 R (.tuple ⟨[.float .f64 x17, .slice ab ae af, .bool true]⟩) w2)
def an146 : Ann :=
 .k .z
 (.k (.t [.q, .s [.int .u64, .slice, .bool]])
 (.k (.k .z
 (.cond 1 2 .zl .l))
 (.k (.t [.q, .s [.float]])
 .l)))
theorem c146 (src : Ptr) (aa ab : Nat) (w : World) (R : RR) (hvc : VC146 src aa ab w R) : CR 146 [.slice src aa ab] w R :=
 vcc (fn := f146) (ann := an146) hvc (by kernel_rfl) (by kernel_rfl)
def VC207 (src : Ptr) (aa ab : Nat) (w : World) (R : RR) : Prop :=
 (decide ((aa : Int) < 8) = true →
 R (.tuple ⟨[.int .u64 0, .slice src aa ab, .bool false]⟩) w) ∧ (decide ((aa : Int) < 8) = false →
 ∃ f : List (Addr × Value), Kept w f ∧
 (cellsOf' prog 316 = some ([] : List Value).length ∧ ∀ i v, ([] : List Value)[i]? = some v → ((⟨12, 0, none⟩ : Addr).add i, v) ∈ f) ∧
 ((0 : Int) ≤ 8 ∧ 8 ≤ (aa : Int) ∧ (aa : Int) ≤ (ab : Int)) ∧
 Calls prog 242 ⟨[.agg ⟨[]⟩, .slice src aa ab]⟩ w.drew fun e w1 => ∃ x11 : Int, e = .returned (.int .u64 x11) ∧
 R (.tuple ⟨[.int .u64 x11, .slice (slAddr src ab 8 1) (aa - 8) (ab - 8), .bool true]⟩) w1)
def an207 : Ann :=
 .k .z
 (.k (.k .z
 (.cond 1 2 .zl .l))
 (.k (.reg (.held [2] (.take 0 (.s []) (.take 1 (.q) (.take 3 (.q) (.take 4 (.q) (.run 2 (.s [.int .u64]) (.take 5 (.q) (.take 6 (.q) (.take 7 (.q) .done))) .done)))))))
 .l))
theorem c207 (src : Ptr) (aa ab : Nat) (w : World) (R : RR) (hvc : VC207 src aa ab w R) : CR 207 [.slice src aa ab] w R :=
 vcc (fn := f207) (ann := an207) hvc (by kernel_rfl) (by kernel_rfl)
def VC242 (b : Ptr) (b_n b_c : Nat) (w : World) (R : RR) : Prop :=
 ∀ w1, w1 = w.alloc (.cells ⟨[]⟩ 316) →
 ((0 : Int) ≤ 7 ∧ 7 < (b_n : Int)) ∧ ∃ ba : Addr, b = some ba ∧
 ∃ x7 : Int, w1.cell? (ba.add 7) = some (.int .u8 x7) ∧
 ((0 : Int) ≤ 0 ∧ 0 < (b_n : Int)) ∧ ∃ aa : Addr, b = some aa ∧
 ∃ x10 : Int, w1.drew.cell? aa = some (.int .u8 x10) ∧
 ∃ x11 : Int, IntKind.u64.wrap x10 = x11 ∧
 ((0 : Int) ≤ 1 ∧ 1 < (b_n : Int)) ∧ ∃ ab : Addr, b = some ab ∧
 ∃ x14 : Int, w1.drew.cell? (ab.add 1) = some (.int .u8 x14) ∧
 ∃ x15 : Int, IntKind.u64.wrap x14 = x15 ∧
 (0 : Int) ≤ 8 ∧ ∃ x16 : Int, IntKind.u64.wrap (x15 * 2 ^ 8) = x16 ∧
 ∃ x17 : Int, bits .or .u64 x11 x16 = x17 ∧
 ((0 : Int) ≤ 2 ∧ 2 < (b_n : Int)) ∧ ∃ ac : Addr, b = some ac ∧
 ∃ x20 : Int, w1.drew.cell? (ac.add 2) = some (.int .u8 x20) ∧
 ∃ x21 : Int, IntKind.u64.wrap x20 = x21 ∧
 (0 : Int) ≤ 16 ∧ ∃ x22 : Int, IntKind.u64.wrap (x21 * 2 ^ 16) = x22 ∧
 ∃ x23 : Int, bits .or .u64 x17 x22 = x23 ∧
 ((0 : Int) ≤ 3 ∧ 3 < (b_n : Int)) ∧ ∃ ad : Addr, b = some ad ∧
 ∃ x26 : Int, w1.drew.cell? (ad.add 3) = some (.int .u8 x26) ∧
 ∃ x27 : Int, IntKind.u64.wrap x26 = x27 ∧
 (0 : Int) ≤ 24 ∧ ∃ x28 : Int, IntKind.u64.wrap (x27 * 2 ^ 24) = x28 ∧
 ∃ x29 : Int, bits .or .u64 x23 x28 = x29 ∧
 ((0 : Int) ≤ 4 ∧ 4 < (b_n : Int)) ∧ ∃ ae : Addr, b = some ae ∧
 ∃ x32 : Int, w1.drew.cell? (ae.add 4) = some (.int .u8 x32) ∧
 ∃ x33 : Int, IntKind.u64.wrap x32 = x33 ∧
 (0 : Int) ≤ 32 ∧ ∃ x34 : Int, IntKind.u64.wrap (x33 * 2 ^ 32) = x34 ∧
 ∃ x35 : Int, bits .or .u64 x29 x34 = x35 ∧
 ((0 : Int) ≤ 5 ∧ 5 < (b_n : Int)) ∧ ∃ af : Addr, b = some af ∧
 ∃ x38 : Int, w1.drew.cell? (af.add 5) = some (.int .u8 x38) ∧
 ∃ x39 : Int, IntKind.u64.wrap x38 = x39 ∧
 (0 : Int) ≤ 40 ∧ ∃ x40 : Int, IntKind.u64.wrap (x39 * 2 ^ 40) = x40 ∧
 ∃ x41 : Int, bits .or .u64 x35 x40 = x41 ∧
 ((0 : Int) ≤ 6 ∧ 6 < (b_n : Int)) ∧ ∃ ag : Addr, b = some ag ∧
 ∃ x44 : Int, w1.drew.cell? (ag.add 6) = some (.int .u8 x44) ∧
 ∃ x45 : Int, IntKind.u64.wrap x44 = x45 ∧
 (0 : Int) ≤ 48 ∧ ∃ x46 : Int, IntKind.u64.wrap (x45 * 2 ^ 48) = x46 ∧
 ∃ x47 : Int, bits .or .u64 x41 x46 = x47 ∧
 ((0 : Int) ≤ 7 ∧ 7 < (b_n : Int)) ∧ ∃ ah : Addr, b = some ah ∧
 ∃ x50 : Int, w1.drew.cell? (ah.add 7) = some (.int .u8 x50) ∧
 ∃ x51 : Int, IntKind.u64.wrap x50 = x51 ∧
 (0 : Int) ≤ 56 ∧ ∃ x52 : Int, IntKind.u64.wrap (x51 * 2 ^ 56) = x52 ∧
 ∃ x53 : Int, bits .or .u64 x47 x52 = x53 ∧
 R (.int .u64 x53) w1.drew
def an242 : Ann :=
 .k .z
 (.k (.t [.q, .s [], .s [.int .u8]])
 (.k (.reg (.loads (.take 0 (.q) (.take 1 (.s []) (.take 2 (.s [.int .u8]) (.take 3 (.q) (.take 4 (.q) (.take 5 (.s []) (.take 6 (.s [.int .u8]) (.take 7 (.q) (.take 8 (.q) (.take 9 (.q) (.take 10 (.q) (.take 11 (.s []) (.take 12 (.s [.int .u8]) (.take 13 (.q) (.take 14 (.q) (.take 15 (.q) (.take 16 (.q) (.take 17 (.s []) (.take 18 (.s [.int .u8]) (.take 19 (.q) (.take 20 (.q) (.take 21 (.q) (.take 22 (.q) (.take 23 (.s []) (.take 24 (.s [.int .u8]) (.take 25 (.q) (.take 26 (.q) (.take 27 (.q) (.take 28 (.q) (.take 29 (.s []) (.take 30 (.s [.int .u8]) (.take 31 (.q) (.take 32 (.q) (.take 33 (.q) (.take 34 (.q) (.take 35 (.s []) (.take 36 (.s [.int .u8]) (.take 37 (.q) (.take 38 (.q) (.take 39 (.q) (.take 40 (.q) (.take 41 (.s []) (.take 42 (.s [.int .u8]) (.take 43 (.q) (.take 44 (.q) (.take 45 (.q) (.take 46 (.q) .done)))))))))))))))))))))))))))))))))))))))))))))))))
 .l))
theorem c242 (b : Ptr) (b_n b_c : Nat) (w : World) (R : RR) (hvc : VC242 b b_n b_c w R) : CR 242 [.agg ⟨[]⟩, .slice b b_n b_c] w R :=
 vcc (fn := f242) (ann := an242) hvc (by kernel_rfl) (by kernel_rfl)
def VC88 (ad : Int) (ae : Ptr) (af ag : Nat) (w : World) (R : RR) : Prop :=
 ∀ w1, w1 = w.alloc (.cells ⟨[.int .u8 ad, .slice ae af ag]⟩ 92) →
 ∃ x6 : Int, w1.cell? ⟨w.heap.size, 0, none⟩ = some (.int .u8 x6) ∧
 ((!decide (x6 = 5)) = true →
 R (.tuple ⟨[.int .u8 0, .slice none 0 0, .bool false]⟩) w1) ∧ ((!decide (x6 = 5)) = false →
 ∃ (x10 : Ptr) (ah ai : Nat), w1.cell? ⟨w.heap.size, 1, none⟩ = some (.slice x10 ah ai) ∧
 Calls prog 148 ⟨[.slice x10 ah ai]⟩ w1 fun e w2 => ∃ x11 : Int, ∃ (ab : Ptr) (aj ak : Nat), ∃ (ac : Ptr) (al am : Nat), ∃ aa : Bool, e = .returned (.tuple ⟨[.int .u8 x11, .slice ab aj ak, .slice ac al am, .bool aa]⟩) ∧
 ((!aa) = true →
 R (.tuple ⟨[.int .u8 0, .slice none 0 0, .bool false]⟩) w2) ∧ ((!aa) = false →
 R (.tuple ⟨[.int .u8 x11, .slice ab aj ak, .bool true]⟩) w2))
def an88 : Ann :=
 .k .z
 (.k (.k (.t [.q, .s [.int .u8]])
 (.cond 1 2 .zl .l))
 (.k (.t [.q, .s [.slice], .s [.int .u8, .slice, .slice, .bool]])
 (.k (.k .z
 (.cond 3 4 .zl .l))
 .zl)))
theorem c88 (aa : Int) (ab : Ptr) (ac ad : Nat) (w : World) (R : RR) (hvc : VC88 aa ab ac ad w R) : CR 88 [.agg ⟨[.int .u8 aa, .slice ab ac ad]⟩] w R :=
 vcc (fn := f88) (ann := an88) hvc (by kernel_rfl) (by kernel_rfl)
def VC148 (src : Ptr) (ah ai : Nat) (w : World) (R : RR) : Prop :=
 Calls prog 73 ⟨[.slice src ah ai]⟩ w fun e w1 => ∃ x9 : Int, ∃ (af : Ptr) (aj ak : Nat), ∃ aa : Bool, e = .returned (.tuple ⟨[.int .i32 x9, .slice af aj ak, .bool aa]⟩) ∧
 ((!aa) = true →
 R (.tuple ⟨[.int .u8 0, .slice none 0 0, .slice src ah ai, .bool false]⟩) w1) ∧ ((!aa) = false →
 (decide ((aj : Int) < 1) = true →
 R (.tuple ⟨[.int .u8 0, .slice none 0 0, .slice src ah ai, .bool false]⟩) w1) ∧ (decide ((aj : Int) < 1) = false →
 ((0 : Int) ≤ 0 ∧ 0 < (aj : Int)) ∧ ∃ ab : Addr, af = some ab ∧
 ∃ x22 : Int, w1.drew.cell? ab = some (.int .u8 x22) ∧
 ((0 : Int) ≤ 1 ∧ 1 ≤ (aj : Int) ∧ (aj : Int) ≤ (ak : Int)) ∧
 ∃ x28 : Int, IntKind.i64.wrap x9 = x28 ∧
 (decide ((((aj - 1) : Nat) : Int) < x28) = true →
 R (.tuple ⟨[.int .u8 0, .slice none 0 0, .slice src ah ai, .bool false]⟩) w1.drew) ∧ (decide ((((aj - 1) : Nat) : Int) < x28) = false →
 ∀ Kx : Int → Ptr → Nat → Nat → Int → World → Prop, (∀ ac : Int, ∀ (rem : Ptr) (al am : Nat), ∀ ad : Int, ∀ w2,
 (((0 : Int) ≤ ad ∧ ad ≤ (am : Int)) ∧
 ((0 : Int) ≤ ad ∧ ad ≤ (al : Int) ∧ (al : Int) ≤ (am : Int)) ∧
 R (.tuple ⟨[.int .u8 ac, .slice rem ad.toNat am, .slice (slAddr rem am ad.toNat 1) (al - ad.toNat) (am - ad.toNat), .bool true]⟩) w2.drew) → Kx ac rem al am ad w2) →
 (decide (x22 = 2) = true →
 Calls prog 73 ⟨[.slice (slAddr af ak 1 1) (aj - 1) (ak - 1)]⟩ w1.drew fun e w3 => ∃ x35 : Int, ∃ (ag : Ptr) (ao ap : Nat), ∃ ae : Bool, e = .returned (.tuple ⟨[.int .i32 x35, .slice ag ao ap, .bool ae]⟩) ∧
 ((!ae) = true →
 R (.tuple ⟨[.int .u8 0, .slice none 0 0, .slice src ah ai, .bool false]⟩) w3) ∧ ((!ae) = false →
 ∃ x45 : Int, IntKind.i64.wrap x35 = x45 ∧
 (decide ((ao : Int) < x45) = true →
 R (.tuple ⟨[.int .u8 0, .slice none 0 0, .slice src ah ai, .bool false]⟩) w3) ∧ (decide ((ao : Int) < x45) = false →
 Kx x22 ag ao ap x35 w3))) ∧ (decide (x22 = 2) = false →
 Kx x22 (slAddr af ak 1 1) (aj - 1) (ak - 1) x9 w1.drew))))
def an148 : Ann :=
 .k .z
 (.k (.t [.q, .s [.int .i32, .slice, .bool]])
 (.k (.k .z
 (.cond 1 2 .zl .l))
 (.k (.k .z
 (.cond 3 4 .zl .l))
 (.k (.reg (.loads (.take 0 (.q) (.take 1 (.s []) (.take 2 (.s [.int .u8]) (.take 3 (.q) (.take 4 (.q) (.take 5 (.q) (.take 6 (.q) .done)))))))))
 (.k (.k .z
 (.cond 5 6 .zl .l))
 (.cut [(2, .int .u8), (4, .slice), (6, .int .i32)] [] (.k .z
 (.cond 7 8 (.k (.t [.q, .s [.int .i32, .slice, .bool]])
 (.k (.t [.q, .q, .q, .gs .n 9 10])
 (.on 10 (.cond 11 12 .zl .l) (.yes .zl)))) .l))
 (.k (.reg (.loads (.take 0 (.q) (.take 1 (.q) (.take 2 (.q) (.take 3 (.q) (.take 4 (.q) (.take 5 (.q) (.take 6 (.q) (.take 7 (.q) (.take 8 (.q) (.take 9 (.q) (.take 10 (.q) .done)))))))))))))
 .l)))))))
theorem c148 (src : Ptr) (aa ab : Nat) (w : World) (R : RR) (hvc : VC148 src aa ab w R) : CR 148 [.slice src aa ab] w R :=
 vcc (fn := f148) (ann := an148) hvc (by kernel_rfl) (by kernel_rfl)
def VC91 (ao : Int) (ap : Ptr) (aq ar : Nat) (w : World) (R : RR) : Prop :=
 ∀ w1, w1 = w.alloc (.cells ⟨[.int .u8 ao, .slice ap aq ar]⟩ 92) →
 ∀ w2, w2 = w1.alloc (.cells ⟨[.int .u8 0, .int .u8 0, .int .u8 0, .int .u8 0, .int .u8 0, .int .u8 0, .int .u8 0, .int .u8 0, .int .u8 0, .int .u8 0, .int .u8 0, .int .u8 0]⟩ 147) →
 ∃ x8 : Int, w2.cell? ⟨w.heap.size, 0, none⟩ = some (.int .u8 x8) ∧
 ((!decide (x8 = 7)) = true →
 ∃ w3, (Instr.storeAt 147 (.pointer (some ⟨w1.heap.size, 0, none⟩)) (.agg ⟨[.int .u8 0, .int .u8 0, .int .u8 0, .int .u8 0, .int .u8 0, .int .u8 0, .int .u8 0, .int .u8 0, .int .u8 0, .int .u8 0, .int .u8 0, .int .u8 0]⟩)).run prog w2 = .ok () w3 ∧
 ∃ r : List Value, LoadsRow prog 147 w3 ⟨w1.heap.size, 0, none⟩ r ∧ R (.tuple ⟨[.agg ⟨r⟩, .bool false]⟩) w3) ∧ ((!decide (x8 = 7)) = false →
 ∃ (x13 : Ptr) (au av : Nat), w2.cell? ⟨w.heap.size, 1, none⟩ = some (.slice x13 au av) ∧
 Calls prog 151 ⟨[.slice x13 au av]⟩ w2 fun e w4 => ∃ x14 : List Value, ∃ (am : Ptr) (aw ax : Nat), ∃ aa : Bool, e = .returned (.tuple ⟨[.agg ⟨x14⟩, .slice am aw ax, .bool aa]⟩) ∧
 ∀ w5, w5 = w4.alloc (.cells ⟨[.int .u8 0, .int .u8 0, .int .u8 0, .int .u8 0, .int .u8 0, .int .u8 0, .int .u8 0, .int .u8 0, .int .u8 0, .int .u8 0, .int .u8 0, .int .u8 0]⟩ 147) →
 ∃ w6, (Instr.storeAt 147 (.pointer (some ⟨w4.heap.size, 0, none⟩)) (.agg ⟨x14⟩)).run prog w5 = .ok () w6 ∧
 ((!aa) = true →
 ∃ w7, (Instr.storeAt 147 (.pointer (some ⟨w1.heap.size, 0, none⟩)) (.agg ⟨[.int .u8 0, .int .u8 0, .int .u8 0, .int .u8 0, .int .u8 0, .int .u8 0, .int .u8 0, .int .u8 0, .int .u8 0, .int .u8 0, .int .u8 0, .int .u8 0]⟩)).run prog w6 = .ok () w7 ∧
 ∃ r_1 : List Value, LoadsRow prog 147 w7 ⟨w1.heap.size, 0, none⟩ r_1 ∧ R (.tuple ⟨[.agg ⟨r_1⟩, .bool false]⟩) w7) ∧ ((!aa) = false →
 ∃ x21 ab : Int, ∃ ac ad : Int, ∃ ae af : Int, ∃ ag ah : Int, ∃ ai aj : Int, ∃ ak al : Int, LoadsRow prog 147 w6 ⟨w4.heap.size, 0, none⟩ [.int .u8 x21, .int .u8 ab, .int .u8 ac, .int .u8 ad, .int .u8 ae, .int .u8 af, .int .u8 ag, .int .u8 ah, .int .u8 ai, .int .u8 aj, .int .u8 ak, .int .u8 al] ∧
 ∃ w8, (Instr.storeAt 147 (.pointer (some ⟨w1.heap.size, 0, none⟩)) (.agg ⟨[.int .u8 x21, .int .u8 ab, .int .u8 ac, .int .u8 ad, .int .u8 ae, .int .u8 af, .int .u8 ag, .int .u8 ah, .int .u8 ai, .int .u8 aj, .int .u8 ak, .int .u8 al]⟩)).run prog w6 = .ok () w8 ∧
 ∃ r_2 : List Value, LoadsRow prog 147 w8 ⟨w1.heap.size, 0, none⟩ r_2 ∧ R (.tuple ⟨[.agg ⟨r_2⟩, .bool true]⟩) w8))
def an91 : Ann :=
 .k .z
 (.k (.k (.t [.q, .s [.int .u8]])
 (.cond 1 2 .zl .l))
 (.k (.t [.q, .s [.slice], .s [.agg, .slice, .bool]])
 (.k (.k .z
 (.cond 3 4 .zl .l))
 (.k (.t [.s [.int .u8, .int .u8, .int .u8, .int .u8, .int .u8, .int .u8, .int .u8, .int .u8, .int .u8, .int .u8, .int .u8, .int .u8]])
 .l))))
theorem c91 (aa : Int) (ab : Ptr) (ac ad : Nat) (w : World) (R : RR) (hvc : VC91 aa ab ac ad w R) : CR 91 [.agg ⟨[.int .u8 aa, .slice ab ac ad]⟩] w R :=
 vcc (fn := f91) (ann := an91) hvc (by kernel_rfl) (by kernel_rfl)
def VC151 (src : Ptr) (az ba : Nat) (w : World) (R : RR) : Prop :=
 ∀ w1, w1 = w.alloc (.cells ⟨[.int .u8 0, .int .u8 0, .int .u8 0, .int .u8 0, .int .u8 0, .int .u8 0, .int .u8 0, .int .u8 0, .int .u8 0, .int .u8 0, .int .u8 0, .int .u8 0]⟩ 147) →
 ∀ w2, w2 = w1.alloc (.cells ⟨[.int .u8 0, .int .u8 0, .int .u8 0, .int .u8 0, .int .u8 0, .int .u8 0, .int .u8 0, .int .u8 0, .int .u8 0, .int .u8 0, .int .u8 0, .int .u8 0]⟩ 147) →
 (decide ((az : Int) < 12) = true →
 ∃ x11 aa : Int, ∃ ab ac : Int, ∃ ad ae : Int, ∃ af ag : Int, ∃ ah ai : Int, ∃ aj ak : Int, LoadsRow prog 147 w2 ⟨w1.heap.size, 0, none⟩ [.int .u8 x11, .int .u8 aa, .int .u8 ab, .int .u8 ac, .int .u8 ad, .int .u8 ae, .int .u8 af, .int .u8 ag, .int .u8 ah, .int .u8 ai, .int .u8 aj, .int .u8 ak] ∧
 ∃ w3, (Instr.storeAt 147 (.pointer (some ⟨w.heap.size, 0, none⟩)) (.agg ⟨[.int .u8 x11, .int .u8 aa, .int .u8 ab, .int .u8 ac, .int .u8 ad, .int .u8 ae, .int .u8 af, .int .u8 ag, .int .u8 ah, .int .u8 ai, .int .u8 aj, .int .u8 ak]⟩)).run prog w2 = .ok () w3 ∧
 ∃ r : List Value, LoadsRow prog 147 w3 ⟨w.heap.size, 0, none⟩ r ∧ R (.tuple ⟨[.agg ⟨r⟩, .slice src az ba, .bool false]⟩) w3) ∧ (decide ((az : Int) < 12) = false →
 ∃ f : List (Addr × Value), Kept w2 f ∧
 ((0 : Int) ≤ 0 ∧ (0 : Int) ≤ 12 ∧ 12 ≤ (ba : Int)) ∧
 ∃ x17 : Int, ∃ w4, BuiltinOk prog .copy #[23, 23] 3 [false, false] [.slice (some (⟨w1.heap.size, 0, none⟩)) 12 12, .slice (slAddr src ba 0 1) (12 - 0) (ba - 0)] w2.drew (.int .i64 x17) w4 ∧
 ∃ f_1 : List (Addr × Value), Kept w4 f_1 ∧
 ∃ x18 al : Int, ∃ am ao : Int, ∃ ap aq : Int, ∃ ar au : Int, ∃ av aw : Int, ∃ ax ay : Int, (cellsOf' prog 147 = some ([.int .u8 x18, .int .u8 al, .int .u8 am, .int .u8 ao, .int .u8 ap, .int .u8 aq, .int .u8 ar, .int .u8 au, .int .u8 av, .int .u8 aw, .int .u8 ax, .int .u8 ay] : List Value).length ∧ ∀ i v, ([.int .u8 x18, .int .u8 al, .int .u8 am, .int .u8 ao, .int .u8 ap, .int .u8 aq, .int .u8 ar, .int .u8 au, .int .u8 av, .int .u8 aw, .int .u8 ax, .int .u8 ay] : List Value)[i]? = some v → ((⟨w1.heap.size, 0, none⟩ : Addr).add i, v) ∈ f_1) ∧
 ((0 : Int) ≤ 12 ∧ 12 ≤ (az : Int) ∧ (az : Int) ≤ (ba : Int)) ∧
 ∃ w5, (Instr.storeAt 147 (.pointer (some ⟨w.heap.size, 0, none⟩)) (.agg ⟨[.int .u8 x18, .int .u8 al, .int .u8 am, .int .u8 ao, .int .u8 ap, .int .u8 aq, .int .u8 ar, .int .u8 au, .int .u8 av, .int .u8 aw, .int .u8 ax, .int .u8 ay]⟩)).run prog w4.drew = .ok () w5 ∧
 ∃ r_1 : List Value, LoadsRow prog 147 w5 ⟨w.heap.size, 0, none⟩ r_1 ∧ R (.tuple ⟨[.agg ⟨r_1⟩, .slice (slAddr src ba 12 1) (az - 12) (ba - 12), .bool true]⟩) w5)
def an151 : Ann :=
 .k .z
 (.k .z
 (.k .z
 (.k (.k .z
 (.cond 1 2 (.k (.t [.s [.int .u8, .int .u8, .int .u8, .int .u8, .int .u8, .int .u8, .int .u8, .int .u8, .int .u8, .int .u8, .int .u8, .int .u8]])
 .l) .l))
 (.k (.reg (.held [4] (.take 0 (.q) (.take 1 (.q) (.take 2 (.q) (.take 3 (.q) (.run 4 (.s [.int .i64]) .done .done)))))))
 (.k (.reg (.held [4] (.take 0 (.s [.int .u8, .int .u8, .int .u8, .int .u8, .int .u8, .int .u8, .int .u8, .int .u8, .int .u8, .int .u8, .int .u8, .int .u8]) (.take 1 (.q) (.take 2 (.q) (.take 3 (.q) (.run 4 (.q) (.take 5 (.q) (.take 6 (.q) .done)) .done)))))))
 .l)))))
theorem c151 (src : Ptr) (aa ab : Nat) (w : World) (R : RR) (hvc : VC151 src aa ab w R) : CR 151 [.slice src aa ab] w R :=
 vcc (fn := f151) (ann := an151) hvc (by kernel_rfl) (by kernel_rfl)
def VC93 (ac : Int) (ad : Ptr) (ae af : Nat) (w : World) (R : RR) : Prop :=
 ∀ w1, w1 = w.alloc (.cells ⟨[.int .u8 ac, .slice ad ae af]⟩ 92) →
 ∃ x8 : Int, w1.cell? ⟨w.heap.size, 0, none⟩ = some (.int .u8 x8) ∧
 ((!decide (x8 = 8)) = true →
 R (.tuple ⟨[.bool false, .bool false]⟩) w1) ∧ ((!decide (x8 = 8)) = false →
 ∃ (x12 : Ptr) (ag ah : Nat), w1.cell? ⟨w.heap.size, 1, none⟩ = some (.slice x12 ag ah) ∧
 Calls prog 153 ⟨[.slice x12 ag ah]⟩ w1 fun e w2 => ∃ x13 : Bool, ∃ (ab : Ptr) (ai aj : Nat), ∃ aa : Bool, e = .returned (.tuple ⟨[.bool x13, .slice ab ai aj, .bool aa]⟩) ∧
 ((!aa) = true →
 R (.tuple ⟨[.bool false, .bool false]⟩) w2) ∧ ((!aa) = false →
 R (.tuple ⟨[.bool x13, .bool true]⟩) w2))
def an93 : Ann :=
 .k .z
 (.k (.k (.t [.q, .s [.int .u8]])
 (.cond 1 2 .zl .l))
 (.k (.t [.q, .s [.slice], .s [.bool, .slice, .bool]])
 (.k (.k .z
 (.cond 3 4 .zl .l))
 .zl)))
theorem c93 (aa : Int) (ab : Ptr) (ac ad : Nat) (w : World) (R : RR) (hvc : VC93 aa ab ac ad w R) : CR 93 [.agg ⟨[.int .u8 aa, .slice ab ac ad]⟩] w R :=
 vcc (fn := f93) (ann := an93) hvc (by kernel_rfl) (by kernel_rfl)
def VC153 (src : Ptr) (ab ac : Nat) (w : World) (R : RR) : Prop :=
 (decide ((ab : Int) < 1) = true →
 R (.tuple ⟨[.bool false, .slice src ab ac, .bool false]⟩) w) ∧ (decide ((ab : Int) < 1) = false →
 ((0 : Int) ≤ 0 ∧ 0 < (ab : Int)) ∧ ∃ aa : Addr, src = some aa ∧
 ∃ x11 : Int, w.drew.cell? aa = some (.int .u8 x11) ∧
 ((0 : Int) ≤ 1 ∧ 1 ≤ (ab : Int) ∧ (ab : Int) ≤ (ac : Int)) ∧
 R (.tuple ⟨[.bool (decide (x11 = 1)), .slice (slAddr src ac 1 1) (ab - 1) (ac - 1), .bool true]⟩) w.drew)
def an153 : Ann :=
 .k .z
 (.k (.k .z
 (.cond 1 2 .zl .l))
 (.k (.reg (.loads (.take 0 (.q) (.take 1 (.s []) (.take 2 (.s [.int .u8]) (.take 3 (.q) (.take 4 (.q) (.take 5 (.q) (.take 6 (.q) (.take 7 (.q) (.take 8 (.q) .done)))))))))))
 .l))
theorem c153 (src : Ptr) (aa ab : Nat) (w : World) (R : RR) (hvc : VC153 src aa ab w R) : CR 153 [.slice src aa ab] w R :=
 vcc (fn := f153) (ann := an153) hvc (by kernel_rfl) (by kernel_rfl)
def VC95 (ac : Int) (ad : Ptr) (ae af : Nat) (w : World) (R : RR) : Prop :=
 ∀ w1, w1 = w.alloc (.cells ⟨[.int .u8 ac, .slice ad ae af]⟩ 92) →
 ∃ x8 : Int, w1.cell? ⟨w.heap.size, 0, none⟩ = some (.int .u8 x8) ∧
 ((!decide (x8 = 9)) = true →
 R (.tuple ⟨[.int .i64 0, .bool false]⟩) w1) ∧ ((!decide (x8 = 9)) = false →
 ∃ (x12 : Ptr) (ag ah : Nat), w1.cell? ⟨w.heap.size, 1, none⟩ = some (.slice x12 ag ah) ∧
 Calls prog 155 ⟨[.slice x12 ag ah]⟩ w1 fun e w2 => ∃ x13 : Int, ∃ (ab : Ptr) (ai aj : Nat), ∃ aa : Bool, e = .returned (.tuple ⟨[.int .i64 x13, .slice ab ai aj, .bool aa]⟩) ∧
 ((!aa) = true →
 R (.tuple ⟨[.int .i64 0, .bool false]⟩) w2) ∧ ((!aa) = false →
 R (.tuple ⟨[.int .i64 x13, .bool true]⟩) w2))
def an95 : Ann :=
 .k .z
 (.k (.k (.t [.q, .s [.int .u8]])
 (.cond 1 2 .zl .l))
 (.k (.t [.q, .s [.slice], .s [.int .i64, .slice, .bool]])
 (.k (.k .z
 (.cond 3 4 .zl .l))
 .zl)))
theorem c95 (aa : Int) (ab : Ptr) (ac ad : Nat) (w : World) (R : RR) (hvc : VC95 aa ab ac ad w R) : CR 95 [.agg ⟨[.int .u8 aa, .slice ab ac ad]⟩] w R :=
 vcc (fn := f95) (ann := an95) hvc (by kernel_rfl) (by kernel_rfl)
def VC155 (src : Ptr) (ac ad : Nat) (w : World) (R : RR) : Prop :=
 Calls prog 211 ⟨[.slice src ac ad]⟩ w fun e w1 => ∃ x6 : Int, ∃ (ab : Ptr) (ae af : Nat), ∃ aa : Bool, e = .returned (.tuple ⟨[.int .i64 x6, .slice ab ae af, .bool aa]⟩) ∧
 R (.tuple ⟨[.int .i64 x6, .slice ab ae af, .bool aa]⟩) w1
def an155 : Ann :=
 .k .z
 (.k (.t [.q, .s [.int .i64, .slice, .bool]])
 .l)
theorem c155 (src : Ptr) (aa ab : Nat) (w : World) (R : RR) (hvc : VC155 src aa ab w R) : CR 155 [.slice src aa ab] w R :=
 vcc (fn := f155) (ann := an155) hvc (by kernel_rfl) (by kernel_rfl)
def VC211 (src : Ptr) (aj ak : Nat) (w : World) (R : RR) : Prop :=
 (decide ((aj : Int) < 8) = true →
 R (.tuple ⟨[.int .i64 0, .slice src aj ak, .bool false]⟩) w) ∧ (decide ((aj : Int) < 8) = false →
 ((0 : Int) ≤ 7 ∧ 7 < (aj : Int)) ∧ ∃ aa : Addr, src = some aa ∧
 ∃ x12 : Int, w.cell? (aa.add 7) = some (.int .u8 x12) ∧
 ((0 : Int) ≤ 0 ∧ 0 < (aj : Int)) ∧ ∃ ab : Addr, src = some ab ∧
 ∃ x15 : Int, w.drew.cell? ab = some (.int .u8 x15) ∧
 ∃ x16 : Int, IntKind.i64.wrap x15 = x16 ∧
 ((0 : Int) ≤ 1 ∧ 1 < (aj : Int)) ∧ ∃ ac : Addr, src = some ac ∧
 ∃ x19 : Int, w.drew.cell? (ac.add 1) = some (.int .u8 x19) ∧
 ∃ x20 : Int, IntKind.i64.wrap x19 = x20 ∧
 (0 : Int) ≤ 8 ∧ ∃ x21 : Int, IntKind.i64.wrap (x20 * 2 ^ 8) = x21 ∧
 ∃ x22 : Int, bits .or .i64 x16 x21 = x22 ∧
 ((0 : Int) ≤ 2 ∧ 2 < (aj : Int)) ∧ ∃ ad : Addr, src = some ad ∧
 ∃ x25 : Int, w.drew.cell? (ad.add 2) = some (.int .u8 x25) ∧
 ∃ x26 : Int, IntKind.i64.wrap x25 = x26 ∧
 (0 : Int) ≤ 16 ∧ ∃ x27 : Int, IntKind.i64.wrap (x26 * 2 ^ 16) = x27 ∧
 ∃ x28 : Int, bits .or .i64 x22 x27 = x28 ∧
 ((0 : Int) ≤ 3 ∧ 3 < (aj : Int)) ∧ ∃ ae : Addr, src = some ae ∧
 ∃ x31 : Int, w.drew.cell? (ae.add 3) = some (.int .u8 x31) ∧
 ∃ x32 : Int, IntKind.i64.wrap x31 = x32 ∧
 (0 : Int) ≤ 24 ∧ ∃ x33 : Int, IntKind.i64.wrap (x32 * 2 ^ 24) = x33 ∧
 ∃ x34 : Int, bits .or .i64 x28 x33 = x34 ∧
 ((0 : Int) ≤ 4 ∧ 4 < (aj : Int)) ∧ ∃ af : Addr, src = some af ∧
 ∃ x37 : Int, w.drew.cell? (af.add 4) = some (.int .u8 x37) ∧
 ∃ x38 : Int, IntKind.i64.wrap x37 = x38 ∧
 (0 : Int) ≤ 32 ∧ ∃ x39 : Int, IntKind.i64.wrap (x38 * 2 ^ 32) = x39 ∧
 ∃ x40 : Int, bits .or .i64 x34 x39 = x40 ∧
 ((0 : Int) ≤ 5 ∧ 5 < (aj : Int)) ∧ ∃ ag : Addr, src = some ag ∧
 ∃ x43 : Int, w.drew.cell? (ag.add 5) = some (.int .u8 x43) ∧
 ∃ x44 : Int, IntKind.i64.wrap x43 = x44 ∧
 (0 : Int) ≤ 40 ∧ ∃ x45 : Int, IntKind.i64.wrap (x44 * 2 ^ 40) = x45 ∧
 ∃ x46 : Int, bits .or .i64 x40 x45 = x46 ∧
 ((0 : Int) ≤ 6 ∧ 6 < (aj : Int)) ∧ ∃ ah : Addr, src = some ah ∧
 ∃ x49 : Int, w.drew.cell? (ah.add 6) = some (.int .u8 x49) ∧
 ∃ x50 : Int, IntKind.i64.wrap x49 = x50 ∧
 (0 : Int) ≤ 48 ∧ ∃ x51 : Int, IntKind.i64.wrap (x50 * 2 ^ 48) = x51 ∧
 ∃ x52 : Int, bits .or .i64 x46 x51 = x52 ∧
 ((0 : Int) ≤ 7 ∧ 7 < (aj : Int)) ∧ ∃ ai : Addr, src = some ai ∧
 ∃ x55 : Int, w.drew.cell? (ai.add 7) = some (.int .u8 x55) ∧
 ∃ x56 : Int, IntKind.i64.wrap x55 = x56 ∧
 (0 : Int) ≤ 56 ∧ ∃ x57 : Int, IntKind.i64.wrap (x56 * 2 ^ 56) = x57 ∧
 ∃ x58 : Int, bits .or .i64 x52 x57 = x58 ∧
 ((0 : Int) ≤ 8 ∧ 8 ≤ (aj : Int) ∧ (aj : Int) ≤ (ak : Int)) ∧
 R (.tuple ⟨[.int .i64 x58, .slice (slAddr src ak 8 1) (aj - 8) (ak - 8), .bool true]⟩) w.drew.drew)
def an211 : Ann :=
 .k .z
 (.k (.k .z
 (.cond 1 2 .zl .l))
 (.k (.t [.q, .s [], .s [.int .u8]])
 (.k (.reg (.loads (.take 0 (.q) (.take 1 (.s []) (.take 2 (.s [.int .u8]) (.take 3 (.q) (.take 4 (.q) (.take 5 (.s []) (.take 6 (.s [.int .u8]) (.take 7 (.q) (.take 8 (.q) (.take 9 (.q) (.take 10 (.q) (.take 11 (.s []) (.take 12 (.s [.int .u8]) (.take 13 (.q) (.take 14 (.q) (.take 15 (.q) (.take 16 (.q) (.take 17 (.s []) (.take 18 (.s [.int .u8]) (.take 19 (.q) (.take 20 (.q) (.take 21 (.q) (.take 22 (.q) (.take 23 (.s []) (.take 24 (.s [.int .u8]) (.take 25 (.q) (.take 26 (.q) (.take 27 (.q) (.take 28 (.q) (.take 29 (.s []) (.take 30 (.s [.int .u8]) (.take 31 (.q) (.take 32 (.q) (.take 33 (.q) (.take 34 (.q) (.take 35 (.s []) (.take 36 (.s [.int .u8]) (.take 37 (.q) (.take 38 (.q) (.take 39 (.q) (.take 40 (.q) (.take 41 (.s []) (.take 42 (.s [.int .u8]) (.take 43 (.q) (.take 44 (.q) (.take 45 (.q) (.take 46 (.q) .done)))))))))))))))))))))))))))))))))))))))))))))))))
 (.k (.reg (.loads (.take 0 (.q) (.take 1 (.q) (.take 2 (.q) (.take 3 (.q) (.take 4 (.q) (.take 5 (.q) .done))))))))
 .l))))
theorem c211 (src : Ptr) (aa ab : Nat) (w : World) (R : RR) (hvc : VC211 src aa ab w R) : CR 211 [.slice src aa ab] w R :=
 vcc (fn := f211) (ann := an211) hvc (by kernel_rfl) (by kernel_rfl)
def VC96 (ad : Int) (ae : Ptr) (af ag : Nat) (w : World) (R : RR) : Prop :=
 ∀ w1, w1 = w.alloc (.cells ⟨[.int .u8 ad, .slice ae af ag]⟩ 92) →
 ∃ x6 : Int, w1.cell? ⟨w.heap.size, 0, none⟩ = some (.int .u8 x6) ∧
 ((!decide (x6 = 11)) = true →
 R (.tuple ⟨[.string (mkS []), .string (mkS []), .bool false]⟩) w1) ∧ ((!decide (x6 = 11)) = false →
 ∃ (x10 : Ptr) (ah ai : Nat), w1.cell? ⟨w.heap.size, 1, none⟩ = some (.slice x10 ah ai) ∧
 Calls prog 156 ⟨[.slice x10 ah ai]⟩ w1 fun e w2 => ∃ x11 aa : Bs, ∃ (ac : Ptr) (aj ak : Nat), ∃ ab : Bool, e = .returned (.tuple ⟨[.string (mkS x11), .string (mkS aa), .slice ac aj ak, .bool ab]⟩) ∧
 ((!ab) = true →
 R (.tuple ⟨[.string (mkS []), .string (mkS []), .bool false]⟩) w2) ∧ ((!ab) = false →
 R (.tuple ⟨[.string (mkS x11), .string (mkS aa), .bool true]⟩) w2))
def an96 : Ann :=
 .k .z
 (.k (.k (.t [.q, .s [.int .u8]])
 (.cond 1 2 .zl .l))
 (.k (.t [.q, .s [.slice], .s [.str, .str, .slice, .bool]])
 (.k (.k .z
 (.cond 3 4 .zl .l))
 .zl)))
theorem c96 (aa : Int) (ab : Ptr) (ac ad : Nat) (w : World) (R : RR) (hvc : VC96 aa ab ac ad w R) : CR 96 [.agg ⟨[.int .u8 aa, .slice ab ac ad]⟩] w R :=
 vcc (fn := f96) (ann := an96) hvc (by kernel_rfl) (by kernel_rfl)
def VC156 (src : Ptr) (ae af : Nat) (w : World) (R : RR) : Prop :=
 Calls prog 212 ⟨[.slice src ae af]⟩ w fun e w1 => ∃ x8 : Bs, ∃ (ac : Ptr) (ag ah : Nat), ∃ aa : Bool, e = .returned (.tuple ⟨[.string (mkS x8), .slice ac ag ah, .bool aa]⟩) ∧
 ((!aa) = true →
 R (.tuple ⟨[.string (mkS []), .string (mkS []), .slice src ae af, .bool false]⟩) w1) ∧ ((!aa) = false →
 Calls prog 212 ⟨[.slice ac ag ah]⟩ w1 fun e w2 => ∃ x17 : Bs, ∃ (ad : Ptr) (ai aj : Nat), ∃ ab : Bool, e = .returned (.tuple ⟨[.string (mkS x17), .slice ad ai aj, .bool ab]⟩) ∧
 ((!ab) = true →
 R (.tuple ⟨[.string (mkS []), .string (mkS []), .slice src ae af, .bool false]⟩) w2) ∧ ((!ab) = false →
 R (.tuple ⟨[.string (mkS x8), .string (mkS x17), .slice ad ai aj, .bool true]⟩) w2))
def an156 : Ann :=
 .k .z
 (.k (.t [.q, .s [.str, .slice, .bool]])
 (.k (.k .z
 (.cond 1 2 .zl .l))
 (.k (.t [.q, .s [.str, .slice, .bool]])
 (.k (.k .z
 (.cond 3 4 .zl .l))
 .zl))))
theorem c156 (src : Ptr) (aa ab : Nat) (w : World) (R : RR) (hvc : VC156 src aa ab w R) : CR 156 [.slice src aa ab] w R :=
 vcc (fn := f156) (ann := an156) hvc (by kernel_rfl) (by kernel_rfl)
def VC212 (src : Ptr) (ac ad : Nat) (w : World) (R : RR) : Prop :=
 Calls prog 243 ⟨[.slice src ac ad]⟩ w fun e w1 => ∃ (x10 : Ptr) (ae af : Nat), ∃ (ab : Ptr) (ag ah : Nat), ∃ aa : Bool, e = .returned (.tuple ⟨[.slice x10 ae af, .slice ab ag ah, .bool aa]⟩) ∧
 ((!aa) = true →
 R (.tuple ⟨[.string (mkS []), .slice src ac ad, .bool false]⟩) w1) ∧ ((!aa) = false →
 ∃ x18 : Bs, ∃ w2, (convert 23 9 (.slice x10 ae af)).run prog w1 = .ok (.string (mkS x18)) w2 ∧
 R (.tuple ⟨[.string (mkS x18), .slice ab ag ah, .bool true]⟩) w2)
def an212 : Ann :=
 .k .z
 (.k (.t [.q, .s [.slice, .slice, .bool]])
 (.k (.k .z
 (.cond 1 2 .zl .l))
 (.k (.t [.q, .s [.str]])
 .l)))
theorem c212 (src : Ptr) (aa ab : Nat) (w : World) (R : RR) (hvc : VC212 src aa ab w R) : CR 212 [.slice src aa ab] w R :=
 vcc (fn := f212) (ann := an212) hvc (by kernel_rfl) (by kernel_rfl)
def VC243 (src : Ptr) (aa ab : Nat) (w : World) (R : RR) : Prop :=
 Calls prog 136 ⟨[.slice src aa ab, .int .u8 0]⟩ w fun e w1 => ∃ x7 : Int, e = .returned (.int .i64 x7) ∧
 (decide (x7 < 0) = true →
 R (.tuple ⟨[.slice none 0 0, .slice src aa ab, .bool false]⟩) w1) ∧ (decide (x7 < 0) = false →
 ((0 : Int) ≤ x7 ∧ x7 ≤ (ab : Int)) ∧
 ∃ x16 : Int, IntKind.i64.wrap (x7 + 1) = x16 ∧
 ((0 : Int) ≤ x16 ∧ x16 ≤ (aa : Int) ∧ (aa : Int) ≤ (ab : Int)) ∧
 R (.tuple ⟨[.slice src x7.toNat ab, .slice (slAddr src ab x16.toNat 1) (aa - x16.toNat) (ab - x16.toNat), .bool true]⟩) w1.drew)
def an243 : Ann :=
 .k .z
 (.k (.t [.q, .s [.int .i64]])
 (.k (.k .z
 (.cond 1 2 .zl .l))
 (.k (.reg (.loads (.take 0 (.q) (.take 1 (.q) (.take 2 (.q) (.take 3 (.q) (.take 4 (.q) (.take 5 (.q) (.take 6 (.q) (.take 7 (.q) (.take 8 (.q) (.take 9 (.q) .done))))))))))))
 .l)))
theorem c243 (src : Ptr) (aa ab : Nat) (w : World) (R : RR) (hvc : VC243 src aa ab w R) : CR 243 [.slice src aa ab] w R :=
 vcc (fn := f243) (ann := an243) hvc (by kernel_rfl) (by kernel_rfl)
def VC98 (ap : Int) (aq : Ptr) (ar au : Nat) (w : World) (R : RR) : Prop :=
 ∀ w1, w1 = w.alloc (.cells ⟨[.int .u8 ap, .slice aq ar au]⟩ 92) →
 ∀ w2, w2 = w1.alloc (.cells ⟨[.int .u8 0, .int .u8 0, .int .u8 0, .int .u8 0, .int .u8 0, .int .u8 0, .int .u8 0, .int .u8 0, .int .u8 0, .int .u8 0, .int .u8 0, .int .u8 0]⟩ 147) →
 ∃ x10 : Int, w2.cell? ⟨w.heap.size, 0, none⟩ = some (.int .u8 x10) ∧
 ((!decide (x10 = 12)) = true →
 ∃ w3, (Instr.storeAt 147 (.pointer (some ⟨w1.heap.size, 0, none⟩)) (.agg ⟨[.int .u8 0, .int .u8 0, .int .u8 0, .int .u8 0, .int .u8 0, .int .u8 0, .int .u8 0, .int .u8 0, .int .u8 0, .int .u8 0, .int .u8 0, .int .u8 0]⟩)).run prog w2 = .ok () w3 ∧
 ∃ r : List Value, LoadsRow prog 147 w3 ⟨w1.heap.size, 0, none⟩ r ∧ R (.tuple ⟨[.string (mkS []), .agg ⟨r⟩, .bool false]⟩) w3) ∧ ((!decide (x10 = 12)) = false →
 ∃ (x15 : Ptr) (av aw : Nat), w2.cell? ⟨w.heap.size, 1, none⟩ = some (.slice x15 av aw) ∧
 Calls prog 158 ⟨[.slice x15 av aw]⟩ w2 fun e w4 => ∃ x16 : Bs, ∃ aa : List Value, ∃ (ao : Ptr) (ax ay : Nat), ∃ ab : Bool, e = .returned (.tuple ⟨[.string (mkS x16), .agg ⟨aa⟩, .slice ao ax ay, .bool ab]⟩) ∧
 ∀ w5, w5 = w4.alloc (.cells ⟨[.int .u8 0, .int .u8 0, .int .u8 0, .int .u8 0, .int .u8 0, .int .u8 0, .int .u8 0, .int .u8 0, .int .u8 0, .int .u8 0, .int .u8 0, .int .u8 0]⟩ 147) →
 ∃ w6, (Instr.storeAt 147 (.pointer (some ⟨w4.heap.size, 0, none⟩)) (.agg ⟨aa⟩)).run prog w5 = .ok () w6 ∧
 ((!ab) = true →
 ∃ w7, (Instr.storeAt 147 (.pointer (some ⟨w1.heap.size, 0, none⟩)) (.agg ⟨[.int .u8 0, .int .u8 0, .int .u8 0, .int .u8 0, .int .u8 0, .int .u8 0, .int .u8 0, .int .u8 0, .int .u8 0, .int .u8 0, .int .u8 0, .int .u8 0]⟩)).run prog w6 = .ok () w7 ∧
 ∃ r_1 : List Value, LoadsRow prog 147 w7 ⟨w1.heap.size, 0, none⟩ r_1 ∧ R (.tuple ⟨[.string (mkS []), .agg ⟨r_1⟩, .bool false]⟩) w7) ∧ ((!ab) = false →
 ∃ f : List (Addr × Value), Kept w6 f ∧
 ∃ x25 ac : Int, ∃ ad ae : Int, ∃ af ag : Int, ∃ ah ai : Int, ∃ aj ak : Int, ∃ al am : Int, (cellsOf' prog 147 = some ([.int .u8 x25, .int .u8 ac, .int .u8 ad, .int .u8 ae, .int .u8 af, .int .u8 ag, .int .u8 ah, .int .u8 ai, .int .u8 aj, .int .u8 ak, .int .u8 al, .int .u8 am] : List Value).length ∧ ∀ i v, ([.int .u8 x25, .int .u8 ac, .int .u8 ad, .int .u8 ae, .int .u8 af, .int .u8 ag, .int .u8 ah, .int .u8 ai, .int .u8 aj, .int .u8 ak, .int .u8 al, .int .u8 am] : List Value)[i]? = some v → ((⟨w4.heap.size, 0, none⟩ : Addr).add i, v) ∈ f) ∧
 ∃ w8, (Instr.storeAt 147 (.pointer (some ⟨w1.heap.size, 0, none⟩)) (.agg ⟨[.int .u8 x25, .int .u8 ac, .int .u8 ad, .int .u8 ae, .int .u8 af, .int .u8 ag, .int .u8 ah, .int .u8 ai, .int .u8 aj, .int .u8 ak, .int .u8 al, .int .u8 am]⟩)).run prog w6.drew = .ok () w8 ∧
 ∃ r_2 : List Value, LoadsRow prog 147 w8 ⟨w1.heap.size, 0, none⟩ r_2 ∧ R (.tuple ⟨[.string (mkS x16), .agg ⟨r_2⟩, .bool true]⟩) w8))
def an98 : Ann :=
 .k .z
 (.k (.k (.t [.q, .s [.int .u8]])
 (.cond 1 2 .zl .l))
 (.k (.t [.q, .s [.slice], .s [.str, .agg, .slice, .bool]])
 (.k (.k .z
 (.cond 3 4 .zl .l))
 (.k (.reg (.held [3] (.take 0 (.q) (.take 1 (.s [.int .u8, .int .u8, .int .u8, .int .u8, .int .u8, .int .u8, .int .u8, .int .u8, .int .u8, .int .u8, .int .u8, .int .u8]) (.take 2 (.q) (.run 3 (.q) (.take 4 (.q) .done) .done))))))
 .l))))
theorem c98 (aa : Int) (ab : Ptr) (ac ad : Nat) (w : World) (R : RR) (hvc : VC98 aa ab ac ad w R) : CR 98 [.agg ⟨[.int .u8 aa, .slice ab ac ad]⟩] w R :=
 vcc (fn := f98) (ann := an98) hvc (by kernel_rfl) (by kernel_rfl)
def VC158 (src : Ptr) (aq ar : Nat) (w : World) (R : RR) : Prop :=
 ∀ w1, w1 = w.alloc (.cells ⟨[.int .u8 0, .int .u8 0, .int .u8 0, .int .u8 0, .int .u8 0, .int .u8 0, .int .u8 0, .int .u8 0, .int .u8 0, .int .u8 0, .int .u8 0, .int .u8 0]⟩ 147) →
 Calls prog 201 ⟨[.slice src aq ar]⟩ w1 fun e w2 => ∃ x8 : Bs, ∃ (ao : Ptr) (au av : Nat), ∃ aa : Bool, e = .returned (.tuple ⟨[.string (mkS x8), .slice ao au av, .bool aa]⟩) ∧
 ((!aa) = true →
 ∃ w3, (Instr.storeAt 147 (.pointer (some ⟨w.heap.size, 0, none⟩)) (.agg ⟨[.int .u8 0, .int .u8 0, .int .u8 0, .int .u8 0, .int .u8 0, .int .u8 0, .int .u8 0, .int .u8 0, .int .u8 0, .int .u8 0, .int .u8 0, .int .u8 0]⟩)).run prog w2 = .ok () w3 ∧
 ∃ r : List Value, LoadsRow prog 147 w3 ⟨w.heap.size, 0, none⟩ r ∧ R (.tuple ⟨[.string (mkS []), .agg ⟨r⟩, .slice src aq ar, .bool false]⟩) w3) ∧ ((!aa) = false →
 Calls prog 151 ⟨[.slice ao au av]⟩ w2 fun e w4 => ∃ x18 : List Value, ∃ (ap : Ptr) (aw ax : Nat), ∃ ab : Bool, e = .returned (.tuple ⟨[.agg ⟨x18⟩, .slice ap aw ax, .bool ab]⟩) ∧
 ∃ w5, (Instr.storeAt 147 (.pointer (some ⟨w.heap.size, 0, none⟩)) (.agg ⟨x18⟩)).run prog w4 = .ok () w5 ∧
 ((!ab) = true →
 ∃ w6, (Instr.storeAt 147 (.pointer (some ⟨w.heap.size, 0, none⟩)) (.agg ⟨[.int .u8 0, .int .u8 0, .int .u8 0, .int .u8 0, .int .u8 0, .int .u8 0, .int .u8 0, .int .u8 0, .int .u8 0, .int .u8 0, .int .u8 0, .int .u8 0]⟩)).run prog w5 = .ok () w6 ∧
 ∃ r_1 : List Value, LoadsRow prog 147 w6 ⟨w.heap.size, 0, none⟩ r_1 ∧ R (.tuple ⟨[.string (mkS []), .agg ⟨r_1⟩, .slice src aq ar, .bool false]⟩) w6) ∧ ((!ab) = false →
 ∃ f : List (Addr × Value), Kept w5 f ∧
 ∃ x27 ac : Int, ∃ ad ae : Int, ∃ af ag : Int, ∃ ah ai : Int, ∃ aj ak : Int, ∃ al am : Int, (cellsOf' prog 147 = some ([.int .u8 x27, .int .u8 ac, .int .u8 ad, .int .u8 ae, .int .u8 af, .int .u8 ag, .int .u8 ah, .int .u8 ai, .int .u8 aj, .int .u8 ak, .int .u8 al, .int .u8 am] : List Value).length ∧ ∀ i v, ([.int .u8 x27, .int .u8 ac, .int .u8 ad, .int .u8 ae, .int .u8 af, .int .u8 ag, .int .u8 ah, .int .u8 ai, .int .u8 aj, .int .u8 ak, .int .u8 al, .int .u8 am] : List Value)[i]? = some v → ((⟨w.heap.size, 0, none⟩ : Addr).add i, v) ∈ f) ∧
 ∃ w7, (Instr.storeAt 147 (.pointer (some ⟨w.heap.size, 0, none⟩)) (.agg ⟨[.int .u8 x27, .int .u8 ac, .int .u8 ad, .int .u8 ae, .int .u8 af, .int .u8 ag, .int .u8 ah, .int .u8 ai, .int .u8 aj, .int .u8 ak, .int .u8 al, .int .u8 am]⟩)).run prog w5.drew = .ok () w7 ∧
 ∃ r_2 : List Value, LoadsRow prog 147 w7 ⟨w.heap.size, 0, none⟩ r_2 ∧ R (.tuple ⟨[.string (mkS x8), .agg ⟨r_2⟩, .slice ap aw ax, .bool true]⟩) w7))
def an158 : Ann :=
 .k .z
 (.k (.t [.q, .s [.str, .slice, .bool]])
 (.k (.k .z
 (.cond 1 2 .zl .l))
 (.k (.t [.q, .s [.agg, .slice, .bool]])
 (.k (.k .z
 (.cond 3 4 .zl .l))
 (.k (.reg (.held [4] (.take 0 (.q) (.take 1 (.s [.int .u8, .int .u8, .int .u8, .int .u8, .int .u8, .int .u8, .int .u8, .int .u8, .int .u8, .int .u8, .int .u8, .int .u8]) (.take 2 (.q) (.take 3 (.q) (.run 4 (.q) (.take 5 (.q) (.take 6 (.q) .done)) .done)))))))
 .l)))))
theorem c158 (src : Ptr) (aa ab : Nat) (w : World) (R : RR) (hvc : VC158 src aa ab w R) : CR 158 [.slice src aa ab] w R :=
 vcc (fn := f158) (ann := an158) hvc (by kernel_rfl) (by kernel_rfl)
def VC99 (ac : Int) (ad : Ptr) (ae af : Nat) (w : World) (R : RR) : Prop :=
 ∀ w1, w1 = w.alloc (.cells ⟨[.int .u8 ac, .slice ad ae af]⟩ 92) →
 ∃ x8 : Int, w1.cell? ⟨w.heap.size, 0, none⟩ = some (.int .u8 x8) ∧
 ((!decide (x8 = 13)) = true →
 R (.tuple ⟨[.string (mkS []), .bool false]⟩) w1) ∧ ((!decide (x8 = 13)) = false →
 ∃ (x12 : Ptr) (ag ah : Nat), w1.cell? ⟨w.heap.size, 1, none⟩ = some (.slice x12 ag ah) ∧
 Calls prog 159 ⟨[.slice x12 ag ah]⟩ w1 fun e w2 => ∃ x13 : Bs, ∃ (ab : Ptr) (ai aj : Nat), ∃ aa : Bool, e = .returned (.tuple ⟨[.string (mkS x13), .slice ab ai aj, .bool aa]⟩) ∧
 ((!aa) = true →
 R (.tuple ⟨[.string (mkS []), .bool false]⟩) w2) ∧ ((!aa) = false →
 R (.tuple ⟨[.string (mkS x13), .bool true]⟩) w2))
def an99 : Ann :=
 .k .z
 (.k (.k (.t [.q, .s [.int .u8]])
 (.cond 1 2 .zl .l))
 (.k (.t [.q, .s [.slice], .s [.str, .slice, .bool]])
 (.k (.k .z
 (.cond 3 4 .zl .l))
 .zl)))
theorem c99 (aa : Int) (ab : Ptr) (ac ad : Nat) (w : World) (R : RR) (hvc : VC99 aa ab ac ad w R) : CR 99 [.agg ⟨[.int .u8 aa, .slice ab ac ad]⟩] w R :=
 vcc (fn := f99) (ann := an99) hvc (by kernel_rfl) (by kernel_rfl)
def VC159 (src : Ptr) (ac ad : Nat) (w : World) (R : RR) : Prop :=
 Calls prog 201 ⟨[.slice src ac ad]⟩ w fun e w1 => ∃ x6 : Bs, ∃ (ab : Ptr) (ae af : Nat), ∃ aa : Bool, e = .returned (.tuple ⟨[.string (mkS x6), .slice ab ae af, .bool aa]⟩) ∧
 R (.tuple ⟨[.string (mkS x6), .slice ab ae af, .bool aa]⟩) w1
def an159 : Ann :=
 .k .z
 (.k (.t [.q, .s [.str, .slice, .bool]])
 .l)
theorem c159 (src : Ptr) (aa ab : Nat) (w : World) (R : RR) (hvc : VC159 src aa ab w R) : CR 159 [.slice src aa ab] w R :=
 vcc (fn := f159) (ann := an159) hvc (by kernel_rfl) (by kernel_rfl)
def VC100 (ac : Int) (ad : Ptr) (ae af : Nat) (w : World) (R : RR) : Prop :=
 ∀ w1, w1 = w.alloc (.cells ⟨[.int .u8 ac, .slice ad ae af]⟩ 92) →
 ∃ x8 : Int, w1.cell? ⟨w.heap.size, 0, none⟩ = some (.int .u8 x8) ∧
 ((!decide (x8 = 14)) = true →
 R (.tuple ⟨[.string (mkS []), .bool false]⟩) w1) ∧ ((!decide (x8 = 14)) = false →
 ∃ (x12 : Ptr) (ag ah : Nat), w1.cell? ⟨w.heap.size, 1, none⟩ = some (.slice x12 ag ah) ∧
 Calls prog 160 ⟨[.slice x12 ag ah]⟩ w1 fun e w2 => ∃ x13 : Bs, ∃ (ab : Ptr) (ai aj : Nat), ∃ aa : Bool, e = .returned (.tuple ⟨[.string (mkS x13), .slice ab ai aj, .bool aa]⟩) ∧
 ((!aa) = true →
 R (.tuple ⟨[.string (mkS []), .bool false]⟩) w2) ∧ ((!aa) = false →
 R (.tuple ⟨[.string (mkS x13), .bool true]⟩) w2))
def an100 : Ann :=
 .k .z
 (.k (.k (.t [.q, .s [.int .u8]])
 (.cond 1 2 .zl .l))
 (.k (.t [.q, .s [.slice], .s [.str, .slice, .bool]])
 (.k (.k .z
 (.cond 3 4 .zl .l))
 .zl)))
theorem c100 (aa : Int) (ab : Ptr) (ac ad : Nat) (w : World) (R : RR) (hvc : VC100 aa ab ac ad w R) : CR 100 [.agg ⟨[.int .u8 aa, .slice ab ac ad]⟩] w R :=
 vcc (fn := f100) (ann := an100) hvc (by kernel_rfl) (by kernel_rfl)
def VC160 (src : Ptr) (ac ad : Nat) (w : World) (R : RR) : Prop :=
 Calls prog 201 ⟨[.slice src ac ad]⟩ w fun e w1 => ∃ x6 : Bs, ∃ (ab : Ptr) (ae af : Nat), ∃ aa : Bool, e = .returned (.tuple ⟨[.string (mkS x6), .slice ab ae af, .bool aa]⟩) ∧
 R (.tuple ⟨[.string (mkS x6), .slice ab ae af, .bool aa]⟩) w1
def an160 : Ann :=
 .k .z
 (.k (.t [.q, .s [.str, .slice, .bool]])
 .l)
theorem c160 (src : Ptr) (aa ab : Nat) (w : World) (R : RR) (hvc : VC160 src aa ab w R) : CR 160 [.slice src aa ab] w R :=
 vcc (fn := f160) (ann := an160) hvc (by kernel_rfl) (by kernel_rfl)
def VC103 (ac : Int) (ad : Ptr) (ae af : Nat) (w : World) (R : RR) : Prop :=
 ∀ w1, w1 = w.alloc (.cells ⟨[.int .u8 ac, .slice ad ae af]⟩ 92) →
 ∃ x8 : Int, w1.cell? ⟨w.heap.size, 0, none⟩ = some (.int .u8 x8) ∧
 ((!decide (x8 = 16)) = true →
 R (.tuple ⟨[.int .i32 0, .bool false]⟩) w1) ∧ ((!decide (x8 = 16)) = false →
 ∃ (x12 : Ptr) (ag ah : Nat), w1.cell? ⟨w.heap.size, 1, none⟩ = some (.slice x12 ag ah) ∧
 Calls prog 162 ⟨[.slice x12 ag ah]⟩ w1 fun e w2 => ∃ x13 : Int, ∃ (ab : Ptr) (ai aj : Nat), ∃ aa : Bool, e = .returned (.tuple ⟨[.int .i32 x13, .slice ab ai aj, .bool aa]⟩) ∧
 ((!aa) = true →
 R (.tuple ⟨[.int .i32 0, .bool false]⟩) w2) ∧ ((!aa) = false →
 R (.tuple ⟨[.int .i32 x13, .bool true]⟩) w2))
def an103 : Ann :=
 .k .z
 (.k (.k (.t [.q, .s [.int .u8]])
 (.cond 1 2 .zl .l))
 (.k (.t [.q, .s [.slice], .s [.int .i32, .slice, .bool]])
 (.k (.k .z
 (.cond 3 4 .zl .l))
 .zl)))
theorem c103 (aa : Int) (ab : Ptr) (ac ad : Nat) (w : World) (R : RR) (hvc : VC103 aa ab ac ad w R) : CR 103 [.agg ⟨[.int .u8 aa, .slice ab ac ad]⟩] w R :=
 vcc (fn := f103) (ann := an103) hvc (by kernel_rfl) (by kernel_rfl)
def VC162 (src : Ptr) (ac ad : Nat) (w : World) (R : RR) : Prop :=
 Calls prog 133 ⟨[.slice src ac ad]⟩ w fun e w1 => ∃ x6 : Int, ∃ (ab : Ptr) (ae af : Nat), ∃ aa : Bool, e = .returned (.tuple ⟨[.int .i32 x6, .slice ab ae af, .bool aa]⟩) ∧
 R (.tuple ⟨[.int .i32 x6, .slice ab ae af, .bool aa]⟩) w1
def an162 : Ann :=
 .k .z
 (.k (.t [.q, .s [.int .i32, .slice, .bool]])
 .l)
theorem c162 (src : Ptr) (aa ab : Nat) (w : World) (R : RR) (hvc : VC162 src aa ab w R) : CR 162 [.slice src aa ab] w R :=
 vcc (fn := f162) (ann := an162) hvc (by kernel_rfl) (by kernel_rfl)
def VC104 (ad : Int) (ae : Ptr) (af ag : Nat) (w : World) (R : RR) : Prop :=
 ∀ w1, w1 = w.alloc (.cells ⟨[.int .u8 ad, .slice ae af ag]⟩ 92) →
 ∃ x6 : Int, w1.cell? ⟨w.heap.size, 0, none⟩ = some (.int .u8 x6) ∧
 ((!decide (x6 = 17)) = true →
 R (.tuple ⟨[.int .u32 0, .int .u32 0, .bool false]⟩) w1) ∧ ((!decide (x6 = 17)) = false →
 ∃ (x10 : Ptr) (ah ai : Nat), w1.cell? ⟨w.heap.size, 1, none⟩ = some (.slice x10 ah ai) ∧
 Calls prog 163 ⟨[.slice x10 ah ai]⟩ w1 fun e w2 => ∃ x11 aa : Int, ∃ (ac : Ptr) (aj ak : Nat), ∃ ab : Bool, e = .returned (.tuple ⟨[.int .u32 x11, .int .u32 aa, .slice ac aj ak, .bool ab]⟩) ∧
 ((!ab) = true →
 R (.tuple ⟨[.int .u32 0, .int .u32 0, .bool false]⟩) w2) ∧ ((!ab) = false →
 R (.tuple ⟨[.int .u32 x11, .int .u32 aa, .bool true]⟩) w2))
def an104 : Ann :=
 .k .z
 (.k (.k (.t [.q, .s [.int .u8]])
 (.cond 1 2 .zl .l))
 (.k (.t [.q, .s [.slice], .s [.int .u32, .int .u32, .slice, .bool]])
 (.k (.k .z
 (.cond 3 4 .zl .l))
 .zl)))
theorem c104 (aa : Int) (ab : Ptr) (ac ad : Nat) (w : World) (R : RR) (hvc : VC104 aa ab ac ad w R) : CR 104 [.agg ⟨[.int .u8 aa, .slice ab ac ad]⟩] w R :=
 vcc (fn := f104) (ann := an104) hvc (by kernel_rfl) (by kernel_rfl)
def VC163 (src : Ptr) (ae af : Nat) (w : World) (R : RR) : Prop :=
 Calls prog 215 ⟨[.slice src ae af]⟩ w fun e w1 => ∃ x8 : Int, ∃ (ac : Ptr) (ag ah : Nat), ∃ aa : Bool, e = .returned (.tuple ⟨[.int .u32 x8, .slice ac ag ah, .bool aa]⟩) ∧
 ((!aa) = true →
 R (.tuple ⟨[.int .u32 0, .int .u32 0, .slice src ae af, .bool false]⟩) w1) ∧ ((!aa) = false →
 Calls prog 215 ⟨[.slice ac ag ah]⟩ w1 fun e w2 => ∃ x17 : Int, ∃ (ad : Ptr) (ai aj : Nat), ∃ ab : Bool, e = .returned (.tuple ⟨[.int .u32 x17, .slice ad ai aj, .bool ab]⟩) ∧
 ((!ab) = true →
 R (.tuple ⟨[.int .u32 0, .int .u32 0, .slice src ae af, .bool false]⟩) w2) ∧ ((!ab) = false →
 R (.tuple ⟨[.int .u32 x17, .int .u32 x8, .slice ad ai aj, .bool true]⟩) w2))
def an163 : Ann :=
 .k .z
 (.k (.t [.q, .s [.int .u32, .slice, .bool]])
 (.k (.k .z
 (.cond 1 2 .zl .l))
 (.k (.t [.q, .s [.int .u32, .slice, .bool]])
 (.k (.k .z
 (.cond 3 4 .zl .l))
 .zl))))
theorem c163 (src : Ptr) (aa ab : Nat) (w : World) (R : RR) (hvc : VC163 src aa ab w R) : CR 163 [.slice src aa ab] w R :=
 vcc (fn := f163) (ann := an163) hvc (by kernel_rfl) (by kernel_rfl)
def VC215 (src : Ptr) (aa ab : Nat) (w : World) (R : RR) : Prop :=
 (decide ((aa : Int) < 4) = true →
 R (.tuple ⟨[.int .u32 0, .slice src aa ab, .bool false]⟩) w) ∧ (decide ((aa : Int) < 4) = false →
 ∃ f : List (Addr × Value), Kept w f ∧
 (cellsOf' prog 316 = some ([] : List Value).length ∧ ∀ i v, ([] : List Value)[i]? = some v → ((⟨12, 0, none⟩ : Addr).add i, v) ∈ f) ∧
 ((0 : Int) ≤ 4 ∧ 4 ≤ (aa : Int) ∧ (aa : Int) ≤ (ab : Int)) ∧
 Calls prog 253 ⟨[.agg ⟨[]⟩, .slice src aa ab]⟩ w.drew fun e w1 => ∃ x11 : Int, e = .returned (.int .u32 x11) ∧
 R (.tuple ⟨[.int .u32 x11, .slice (slAddr src ab 4 1) (aa - 4) (ab - 4), .bool true]⟩) w1)
def an215 : Ann :=
 .k .z
 (.k (.k .z
 (.cond 1 2 .zl .l))
 (.k (.reg (.held [2] (.take 0 (.s []) (.take 1 (.q) (.take 3 (.q) (.take 4 (.q) (.run 2 (.s [.int .u32]) (.take 5 (.q) (.take 6 (.q) (.take 7 (.q) .done))) .done)))))))
 .l))
theorem c215 (src : Ptr) (aa ab : Nat) (w : World) (R : RR) (hvc : VC215 src aa ab w R) : CR 215 [.slice src aa ab] w R :=
 vcc (fn := f215) (ann := an215) hvc (by kernel_rfl) (by kernel_rfl)
def VC253 (b : Ptr) (b_n b_c : Nat) (w : World) (R : RR) : Prop :=
 ∀ w1, w1 = w.alloc (.cells ⟨[]⟩ 316) →
 ((0 : Int) ≤ 3 ∧ 3 < (b_n : Int)) ∧ ∃ ba : Addr, b = some ba ∧
 ∃ x7 : Int, w1.cell? (ba.add 3) = some (.int .u8 x7) ∧
 ((0 : Int) ≤ 0 ∧ 0 < (b_n : Int)) ∧ ∃ aa : Addr, b = some aa ∧
 ∃ x10 : Int, w1.drew.cell? aa = some (.int .u8 x10) ∧
 ∃ x11 : Int, IntKind.u32.wrap x10 = x11 ∧
 ((0 : Int) ≤ 1 ∧ 1 < (b_n : Int)) ∧ ∃ ab : Addr, b = some ab ∧
 ∃ x14 : Int, w1.drew.cell? (ab.add 1) = some (.int .u8 x14) ∧
 ∃ x15 : Int, IntKind.u32.wrap x14 = x15 ∧
 (0 : Int) ≤ 8 ∧ ∃ x16 : Int, IntKind.u32.wrap (x15 * 2 ^ 8) = x16 ∧
 ∃ x17 : Int, bits .or .u32 x11 x16 = x17 ∧
 ((0 : Int) ≤ 2 ∧ 2 < (b_n : Int)) ∧ ∃ ac : Addr, b = some ac ∧
 ∃ x20 : Int, w1.drew.cell? (ac.add 2) = some (.int .u8 x20) ∧
 ∃ x21 : Int, IntKind.u32.wrap x20 = x21 ∧
 (0 : Int) ≤ 16 ∧ ∃ x22 : Int, IntKind.u32.wrap (x21 * 2 ^ 16) = x22 ∧
 ∃ x23 : Int, bits .or .u32 x17 x22 = x23 ∧
 ((0 : Int) ≤ 3 ∧ 3 < (b_n : Int)) ∧ ∃ ad : Addr, b = some ad ∧
 ∃ x26 : Int, w1.drew.cell? (ad.add 3) = some (.int .u8 x26) ∧
 ∃ x27 : Int, IntKind.u32.wrap x26 = x27 ∧
 (0 : Int) ≤ 24 ∧ ∃ x28 : Int, IntKind.u32.wrap (x27 * 2 ^ 24) = x28 ∧
 ∃ x29 : Int, bits .or .u32 x23 x28 = x29 ∧
 R (.int .u32 x29) w1.drew
def an253 : Ann :=
 .k .z
 (.k (.t [.q, .s [], .s [.int .u8]])
 (.k (.reg (.loads (.take 0 (.q) (.take 1 (.s []) (.take 2 (.s [.int .u8]) (.take 3 (.q) (.take 4 (.q) (.take 5 (.s []) (.take 6 (.s [.int .u8]) (.take 7 (.q) (.take 8 (.q) (.take 9 (.q) (.take 10 (.q) (.take 11 (.s []) (.take 12 (.s [.int .u8]) (.take 13 (.q) (.take 14 (.q) (.take 15 (.q) (.take 16 (.q) (.take 17 (.s []) (.take 18 (.s [.int .u8]) (.take 19 (.q) (.take 20 (.q) (.take 21 (.q) (.take 22 (.q) .done)))))))))))))))))))))))))
 .l))
theorem c253 (b : Ptr) (b_n b_c : Nat) (w : World) (R : RR) (hvc : VC253 b b_n b_c w R) : CR 253 [.agg ⟨[]⟩, .slice b b_n b_c] w R :=
 vcc (fn := f253) (ann := an253) hvc (by kernel_rfl) (by kernel_rfl)
def VC105 (ac : Int) (ad : Ptr) (ae af : Nat) (w : World) (R : RR) : Prop :=
 ∀ w1, w1 = w.alloc (.cells ⟨[.int .u8 ac, .slice ad ae af]⟩ 92) →
 ∃ x8 : Int, w1.cell? ⟨w.heap.size, 0, none⟩ = some (.int .u8 x8) ∧
 ((!decide (x8 = 18)) = true →
 R (.tuple ⟨[.int .i64 0, .bool false]⟩) w1) ∧ ((!decide (x8 = 18)) = false →
 ∃ (x12 : Ptr) (ag ah : Nat), w1.cell? ⟨w.heap.size, 1, none⟩ = some (.slice x12 ag ah) ∧
 Calls prog 164 ⟨[.slice x12 ag ah]⟩ w1 fun e w2 => ∃ x13 : Int, ∃ (ab : Ptr) (ai aj : Nat), ∃ aa : Bool, e = .returned (.tuple ⟨[.int .i64 x13, .slice ab ai aj, .bool aa]⟩) ∧
 ((!aa) = true →
 R (.tuple ⟨[.int .i64 0, .bool false]⟩) w2) ∧ ((!aa) = false →
 R (.tuple ⟨[.int .i64 x13, .bool true]⟩) w2))
def an105 : Ann :=
 .k .z
 (.k (.k (.t [.q, .s [.int .u8]])
 (.cond 1 2 .zl .l))
 (.k (.t [.q, .s [.slice], .s [.int .i64, .slice, .bool]])
 (.k (.k .z
 (.cond 3 4 .zl .l))
 .zl)))
theorem c105 (aa : Int) (ab : Ptr) (ac ad : Nat) (w : World) (R : RR) (hvc : VC105 aa ab ac ad w R) : CR 105 [.agg ⟨[.int .u8 aa, .slice ab ac ad]⟩] w R :=
 vcc (fn := f105) (ann := an105) hvc (by kernel_rfl) (by kernel_rfl)
def VC164 (src : Ptr) (ac ad : Nat) (w : World) (R : RR) : Prop :=
 Calls prog 211 ⟨[.slice src ac ad]⟩ w fun e w1 => ∃ x6 : Int, ∃ (ab : Ptr) (ae af : Nat), ∃ aa : Bool, e = .returned (.tuple ⟨[.int .i64 x6, .slice ab ae af, .bool aa]⟩) ∧
 R (.tuple ⟨[.int .i64 x6, .slice ab ae af, .bool aa]⟩) w1
def an164 : Ann :=
 .k .z
 (.k (.t [.q, .s [.int .i64, .slice, .bool]])
 .l)
theorem c164 (src : Ptr) (aa ab : Nat) (w : World) (R : RR) (hvc : VC164 src aa ab w R) : CR 164 [.slice src aa ab] w R :=
 vcc (fn := f164) (ann := an164) hvc (by kernel_rfl) (by kernel_rfl)
def VC106 (ad : Int) (ae : Ptr) (af ag : Nat) (w : World) (R : RR) : Prop :=
 ∀ w1, w1 = w.alloc (.cells ⟨[.int .u8 ad, .slice ae af ag]⟩ 92) →
 ∃ x10 : Int, w1.cell? ⟨w.heap.size, 0, none⟩ = some (.int .u8 x10) ∧
 ((!decide (x10 = 19)) = true →
 R (.tuple ⟨[.int .u64 0, .int .u64 0, .bool false]⟩) w1) ∧ ((!decide (x10 = 19)) = false →
 ∃ (x14 : Ptr) (ah ai : Nat), w1.cell? ⟨w.heap.size, 1, none⟩ = some (.slice x14 ah ai) ∧
 Calls prog 165 ⟨[.slice x14 ah ai]⟩ w1 fun e w2 => ∃ x15 aa : Int, ∃ (ac : Ptr) (aj ak : Nat), ∃ ab : Bool, e = .returned (.tuple ⟨[.int .u64 x15, .int .u64 aa, .slice ac aj ak, .bool ab]⟩) ∧
 ((!ab) = true →
 R (.tuple ⟨[.int .u64 0, .int .u64 0, .bool false]⟩) w2) ∧ ((!ab) = false →
 R (.tuple ⟨[.int .u64 x15, .int .u64 aa, .bool true]⟩) w2))
def an106 : Ann :=
 .k .z
 (.k (.k (.t [.q, .s [.int .u8]])
 (.cond 1 2 .zl .l))
 (.k (.t [.q, .s [.slice], .s [.int .u64, .int .u64, .slice, .bool]])
 (.k (.k .z
 (.cond 3 4 .zl .l))
 .zl)))
theorem c106 (aa : Int) (ab : Ptr) (ac ad : Nat) (w : World) (R : RR) (hvc : VC106 aa ab ac ad w R) : CR 106 [.agg ⟨[.int .u8 aa, .slice ab ac ad]⟩] w R :=
 vcc (fn := f106) (ann := an106) hvc (by kernel_rfl) (by kernel_rfl)
def VC165 (src : Ptr) (ae af : Nat) (w : World) (R : RR) : Prop :=
 Calls prog 207 ⟨[.slice src ae af]⟩ w fun e w1 => ∃ x8 : Int, ∃ (ac : Ptr) (ag ah : Nat), ∃ aa : Bool, e = .returned (.tuple ⟨[.int .u64 x8, .slice ac ag ah, .bool aa]⟩) ∧
 ((!aa) = true →
 R (.tuple ⟨[.int .u64 0, .int .u64 0, .slice src ae af, .bool false]⟩) w1) ∧ ((!aa) = false →
 Calls prog 207 ⟨[.slice ac ag ah]⟩ w1 fun e w2 => ∃ x17 : Int, ∃ (ad : Ptr) (ai aj : Nat), ∃ ab : Bool, e = .returned (.tuple ⟨[.int .u64 x17, .slice ad ai aj, .bool ab]⟩) ∧
 ((!ab) = true →
 R (.tuple ⟨[.int .u64 0, .int .u64 0, .slice src ae af, .bool false]⟩) w2) ∧ ((!ab) = false →
 R (.tuple ⟨[.int .u64 x17, .int .u64 x8, .slice ad ai aj, .bool true]⟩) w2))
def an165 : Ann :=
 .k .z
 (.k (.t [.q, .s [.int .u64, .slice, .bool]])
 (.k (.k .z
 (.cond 1 2 .zl .l))
 (.k (.t [.q, .s [.int .u64, .slice, .bool]])
 (.k (.k .z
 (.cond 3 4 .zl .l))
 .zl))))
theorem c165 (src : Ptr) (aa ab : Nat) (w : World) (R : RR) (hvc : VC165 src aa ab w R) : CR 165 [.slice src aa ab] w R :=
 vcc (fn := f165) (ann := an165) hvc (by kernel_rfl) (by kernel_rfl)
end Go.Proofs.Tryz
set_option linter.unusedVariables false
namespace Go.Proofs.Tryz
open Go.Vc Go.RowKit
theorem ofInt64i (a : Nat) (h : a < 18446744073709551616) : (BitVec.ofInt IntKind.i64.bits (IntKind.i64.wrap (a : Int))).toNat = a := by
  rw [BitVec.toNat_ofInt, IntKind.wrap_i64]
  have e : (((2 ^ IntKind.i64.bits : Nat)) : Int) = 18446744073709551616 := by decide
  rw [e]; omega
theorem or_i64 (a b : Nat) (ha : a < 18446744073709551616) (hb : b < 18446744073709551616) : bits .or .i64 (IntKind.i64.wrap (a : Int)) (IntKind.i64.wrap (b : Int)) = IntKind.i64.wrap (((a ||| b : Nat)) : Int) := by
  unfold bits
  simp only [BitVec.toNat_or, ofInt64i a ha, ofInt64i b hb]
def num8 (b0 b1 b2 b3 b4 b5 b6 b7 : UInt8) : Nat :=
  b0.toNat + b1.toNat * 256 + b2.toNat * 65536 + b3.toNat * 16777216 + b4.toNat * 4294967296 + b5.toNat * 1099511627776 + b6.toNat * 281474976710656 + b7.toNat * 72057594037927936
theorem num8_le (n : Int) (m : Nat) (h : (m : Int) = n % 18446744073709551616) :
    num8 (b8 (n / 2 ^ (8 * 0))) (b8 (n / 2 ^ (8 * 1))) (b8 (n / 2 ^ (8 * 2))) (b8 (n / 2 ^ (8 * 3))) (b8 (n / 2 ^ (8 * 4))) (b8 (n / 2 ^ (8 * 5))) (b8 (n / 2 ^ (8 * 6))) (b8 (n / 2 ^ (8 * 7))) = m := by
  have h0 := b8_toNat (n / 2 ^ (8 * 0))
  have h1 := b8_toNat (n / 2 ^ (8 * 1))
  have h2 := b8_toNat (n / 2 ^ (8 * 2))
  have h3 := b8_toNat (n / 2 ^ (8 * 3))
  have h4 := b8_toNat (n / 2 ^ (8 * 4))
  have h5 := b8_toNat (n / 2 ^ (8 * 5))
  have h6 := b8_toNat (n / 2 ^ (8 * 6))
  have h7 := b8_toNat (n / 2 ^ (8 * 7))
  simp only [Nat.mul_zero, Nat.reduceMul, Int.reducePow, Int.pow_zero, Int.ediv_one] at h0 h1 h2 h3 h4 h5 h6 h7
  unfold num8
  simp only [Nat.mul_zero, Nat.reduceMul, Int.reducePow, Int.pow_zero, Int.ediv_one]
  omega
theorem le64_list (n : Int) : le64 n = [b8 (n / 2 ^ (8 * 0)), b8 (n / 2 ^ (8 * 1)), b8 (n / 2 ^ (8 * 2)), b8 (n / 2 ^ (8 * 3)), b8 (n / 2 ^ (8 * 4)), b8 (n / 2 ^ (8 * 5)), b8 (n / 2 ^ (8 * 6)), b8 (n / 2 ^ (8 * 7))] := rfl
theorem ret211 (p : Option Addr) (n c : Nat) (b0 b1 b2 b3 b4 b5 b6 b7 : UInt8) (l r : List UInt8) (w : World) (hl : l = b0 :: b1 :: b2 :: b3 :: b4 :: b5 :: b6 :: b7 :: r) (hr : ReadsB w p l) (hn : n = l.length) (hc : n ≤ c) :
    Ret 211 [.slice p n c] w (.tuple ⟨[.int .i64 (IntKind.i64.wrap (num8 b0 b1 b2 b3 b4 b5 b6 b7 : Nat)), .slice (slAddr p c 8 1) (n - 8) (c - 8), .bool true]⟩) := by
  have hn8 : 8 ≤ n := by rw [hn, hl]; simp
  have q0 := b0.toNat_lt
  have q1 := b1.toNat_lt
  have q2 := b2.toNat_lt
  have q3 := b3.toNat_lt
  have q4 := b4.toNat_lt
  have q5 := b5.toNat_lt
  have q6 := b6.toNat_lt
  have q7 := b7.toNat_lt
  obtain ⟨a, ha⟩ : ∃ a, p = some a := by obtain ⟨a, ha, _⟩ := hr 0 b0 (by rw [hl]; rfl); exact ⟨a, ha⟩
  subst ha
  have c0 : w.cell? a = some (.int .u8 (b0.toNat : Int)) := by
    have := hr.at (j := 0) (b := b0) (by rw [hl]; rfl)
    have e : a.add 0 = a := by simp [Addr.add]
    rwa [e] at this
  have c1 := hr.at (j := 1) (b := b1) (by rw [hl]; rfl)
  have c2 := hr.at (j := 2) (b := b2) (by rw [hl]; rfl)
  have c3 := hr.at (j := 3) (b := b3) (by rw [hl]; rfl)
  have c4 := hr.at (j := 4) (b := b4) (by rw [hl]; rfl)
  have c5 := hr.at (j := 5) (b := b5) (by rw [hl]; rfl)
  have c6 := hr.at (j := 6) (b := b6) (by rw [hl]; rfl)
  have c7 := hr.at (j := 7) (b := b7) (by rw [hl]; rfl)
  have sh : ∀ (b : UInt8) (k : Int) (m : Nat), k = (m : Int) → IntKind.i64.wrap (IntKind.i64.wrap (b.toNat : Int) * k) = IntKind.i64.wrap ((b.toNat * m : Nat) : Int) := by
    intro b k m hk
    have := b.toNat_lt
    rw [i64w (n := (b.toNat : Int)) (by omega) (by omega), hk]; congr 1
  refine Ret.of (c211 _ _ _ w _ ?_)
  unfold VC211
  refine ⟨fun h => by have := of_decide_eq_true h; omega, fun _ => ⟨⟨by omega, by omega⟩, a, rfl, _, c7, ⟨by omega, by omega⟩, a, rfl, _, c0, _, rfl,
    ⟨by omega, by omega⟩, a, rfl, _, c1, _, rfl, by decide, _, sh b1 _ 256 rfl, _, or_i64 _ _ (by omega) (by omega),
    ⟨by omega, by omega⟩, a, rfl, _, c2, _, rfl, by decide, _, sh b2 _ 65536 rfl, IntKind.i64.wrap ((b0.toNat + b1.toNat * 256 + b2.toNat * 65536 : Nat) : Int), ?_,
    ⟨by omega, by omega⟩, a, rfl, _, c3, _, rfl, by decide, _, sh b3 _ 16777216 rfl, IntKind.i64.wrap ((b0.toNat + b1.toNat * 256 + b2.toNat * 65536 + b3.toNat * 16777216 : Nat) : Int), ?_,
    ⟨by omega, by omega⟩, a, rfl, _, c4, _, rfl, by decide, _, sh b4 _ 4294967296 rfl, IntKind.i64.wrap ((b0.toNat + b1.toNat * 256 + b2.toNat * 65536 + b3.toNat * 16777216 + b4.toNat * 4294967296 : Nat) : Int), ?_,
    ⟨by omega, by omega⟩, a, rfl, _, c5, _, rfl, by decide, _, sh b5 _ 1099511627776 rfl, IntKind.i64.wrap ((b0.toNat + b1.toNat * 256 + b2.toNat * 65536 + b3.toNat * 16777216 + b4.toNat * 4294967296 + b5.toNat * 1099511627776 : Nat) : Int), ?_,
    ⟨by omega, by omega⟩, a, rfl, _, c6, _, rfl, by decide, _, sh b6 _ 281474976710656 rfl, IntKind.i64.wrap ((b0.toNat + b1.toNat * 256 + b2.toNat * 65536 + b3.toNat * 16777216 + b4.toNat * 4294967296 + b5.toNat * 1099511627776 + b6.toNat * 281474976710656 : Nat) : Int), ?_,
    ⟨by omega, by omega⟩, a, rfl, _, c7, _, rfl, by decide, _, sh b7 _ 72057594037927936 rfl, IntKind.i64.wrap (num8 b0 b1 b2 b3 b4 b5 b6 b7 : Nat), ?_, ⟨by omega, by omega, by omega⟩, rfl, ((Keeps.refl w).drew).trans (Keeps.refl w.drew).drew⟩⟩
  · rw [or_add _ _ 8 (by omega) (by omega), or_i64 _ _ (by omega) (by omega), or_add _ _ 16 (by omega) (by omega)]
  · rw [or_i64 _ _ (by omega) (by omega), or_add _ _ 24 (by omega) (by omega)]
  · rw [or_i64 _ _ (by omega) (by omega), or_add _ _ 32 (by omega) (by omega)]
  · rw [or_i64 _ _ (by omega) (by omega), or_add _ _ 40 (by omega) (by omega)]
  · rw [or_i64 _ _ (by omega) (by omega), or_add _ _ 48 (by omega) (by omega)]
  · rw [or_i64 _ _ (by omega) (by omega), or_add _ _ 56 (by omega) (by omega)]; rfl
end Go.Proofs.Tryz
