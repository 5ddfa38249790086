/- Parts of a proof, joined: VG, A20. -/
import Derived.Test.YtfofafjemgfobaaGreatDoorX4
import Derived.Test.YtfofafjemgfobaaGreatDoorX16
set_option linter.unusedVariables false
set_option maxRecDepth 100000
namespace Go.Proofs.Tryz
open Go.Vc
def VC61 (f : Nat) (fmt : Int) (aa : Int) (ab : Int) (w : World) (R : RR) : Prop :=
 Calls prog 117 ⟨[.float .f64 f, .int .u8 fmt, .int .i64 aa, .int .i64 ab]⟩ w fun e w1 => ∃ x13 : Bs, e = .returned (.string (mkS x13)) ∧
 R (.string (mkS x13)) w1
def an61 : Ann :=
 .k .z
 (.k (.t [.q, .q, .q, .q, .s [.str]])
 .l)
theorem c61 (f : Nat) (fmt : Int) (aa : Int) (ab : Int) (w : World) (R : RR) (hvc : VC61 f fmt aa ab w R) : CR 61 [.float .f64 f, .int .u8 fmt, .int .i64 aa, .int .i64 ab] w R :=
 vcc (fn := f61) (ann := an61) hvc (by kernel_rfl) (by kernel_rfl)
def VC117 (f : Nat) (fmt : Int) (aa : Int) (ab : Int) (w : World) (R : RR) : Prop :=
 (decide (ab = 32) = true →
 ∃ x12 : Int, IntKind.i64.wrap (aa + 4) = x12 ∧
 ∃ x13 : Int, (if (24 : Int) > x12 then 24 else x12) = x13 ∧
 ∃ (x14 : Ptr) (ac ad : Nat), ∃ w1, (Instr.makeSlice 23 (.int .i64 0) (.int .i64 x13)).run prog w = .ok (.slice x14 ac ad) w1 ∧
 ∃ x16 : Nat, ∃ w2, (convert 52 240 (.float .f64 f)).run prog w1 = .ok (.float .f64 x16) w2 ∧
 Calls prog 170 ⟨[.slice x14 ac ad, .float .f64 x16, .int .u8 fmt, .int .i64 aa]⟩ w2 fun e w3 => ∃ (x19 : Ptr) (ae af : Nat), e = .returned (.slice x19 ae af) ∧
 ∃ x20 : Bs, ∃ w4, (convert 23 9 (.slice x19 ae af)).run prog w3 = .ok (.string (mkS x20)) w4 ∧
 R (.string (mkS x20)) w4) ∧ (decide (ab = 32) = false →
 (decide (ab = 64) = true →
 ∃ x24 : Int, IntKind.i64.wrap (aa + 4) = x24 ∧
 ∃ x25 : Int, (if (24 : Int) > x24 then 24 else x24) = x25 ∧
 ∃ (x26 : Ptr) (ag ah : Nat), ∃ w5, (Instr.makeSlice 23 (.int .i64 0) (.int .i64 x25)).run prog w = .ok (.slice x26 ag ah) w5 ∧
 Calls prog 171 ⟨[.slice x26 ag ah, .float .f64 f, .int .u8 fmt, .int .i64 aa]⟩ w5 fun e w6 => ∃ (x30 : Ptr) (ai aj : Nat), e = .returned (.slice x30 ai aj) ∧
 ∃ x31 : Bs, ∃ w7, (convert 23 9 (.slice x30 ai aj)).run prog w6 = .ok (.string (mkS x31)) w7 ∧
 R (.string (mkS x31)) w7) ∧ (decide (ab = 64) = false →
 False))
def an117 : Ann :=
 .k .z
 (.k (.k .z
 (.cond 1 2 (.k (.t [.q, .q, .q, .s [.slice], .q, .s [.float], .q, .q, .s [.slice], .s [.str]])
 .l) .l))
 (.k (.k .z
 (.cond 3 4 (.k (.t [.q, .q, .q, .s [.slice], .q, .q, .q, .s [.slice], .s [.str]])
 .l) .l))
 .z))
theorem c117 (f : Nat) (fmt : Int) (aa : Int) (ab : Int) (w : World) (R : RR) (hvc : VC117 f fmt aa ab w R) : CR 117 [.float .f64 f, .int .u8 fmt, .int .i64 aa, .int .i64 ab] w R :=
 vcc (fn := f117) (ann := an117) hvc (by kernel_rfl) (by kernel_rfl)
def VC171 (dst : Ptr) (cy cz : Nat) (val : Nat) (fmt : Int) (da : Int) (w : World) (R : RR) : Prop :=
 ∀ Kx : Int → Int → Int → Int → World → Prop, (∀ b : Int, ∀ aa : Int, ∀ ab : Int, ∀ ac : Int, ∀ w1,
 (∃ x47 : Int, IntKind.i64.wrap (aa + ab) = x47 ∧
 (0 : Int) ≤ x47 ∧ ∃ x48 : Int, Int.fdiv b (2 ^ (min x47.toNat 64)) = x48 ∧
 (0 : Int) ≤ ab ∧ ∃ x52 : Int, Int.fdiv b (2 ^ (min ab.toNat 64)) = x52 ∧
 ∃ x53 : Int, IntKind.i64.wrap x52 = x53 ∧
 (0 : Int) ≤ aa ∧ ∃ x55 : Int, IntKind.i64.wrap (1 * 2 ^ (min aa.toNat 64)) = x55 ∧
 ∃ x56 : Int, IntKind.i64.wrap (x55 - 1) = x56 ∧
 ∃ x57 : Int, bits .and .i64 x53 x56 = x57 ∧
 (0 : Int) ≤ ab ∧ ∃ x60 : Int, IntKind.u64.wrap (1 * 2 ^ (min ab.toNat 64)) = x60 ∧
 ∃ x61 : Int, IntKind.u64.wrap (x60 - 1) = x61 ∧
 ∃ x62 : Int, bits .and .u64 b x61 = x62 ∧
 (0 : Int) ≤ aa ∧ ∃ x65 : Int, IntKind.i64.wrap (1 * 2 ^ (min aa.toNat 64)) = x65 ∧
 ∃ x66 : Int, IntKind.i64.wrap (x65 - 1) = x66 ∧
 (decide (x57 = x66) = true →
 ((!decide (x62 = 0)) = true →
 ∃ (x71 : Ptr) (db dc : Nat), ∃ w2, BuiltinOk prog .append #[23, 9] 23 [false, true] [.slice dst cy cz, .string (mkS [78, 97, 78])] w1.drew (.slice x71 db dc) w2 ∧
 R (.slice x71 db dc) w2) ∧ ((!decide (x62 = 0)) = false →
 ((!decide (x48 = 0)) = true →
 ∃ (x74 : Ptr) (dd de : Nat), ∃ w3, BuiltinOk prog .append #[23, 9] 23 [false, true] [.slice dst cy cz, .string (mkS [45, 73, 110, 102])] w1.drew (.slice x74 dd de) w3 ∧
 R (.slice x74 dd de) w3) ∧ ((!decide (x48 = 0)) = false →
 ∃ (x76 : Ptr) (df dg : Nat), ∃ w4, BuiltinOk prog .append #[23, 9] 23 [false, true] [.slice dst cy cz, .string (mkS [43, 73, 110, 102])] w1.drew (.slice x76 df dg) w4 ∧
 R (.slice x76 df dg) w4))) ∧ (decide (x57 = x66) = false →
 ∀ ad : Int → Int → World → Prop, (∀ exp : Int, ∀ ae : Int, ∀ w5,
 (∃ x87 : Int, IntKind.i64.wrap (exp + ac) = x87 ∧
 (decide (fmt = 98) = true →
 ∃ x95 : Int, IntKind.i64.wrap (x87 - ab) = x95 ∧
 Calls prog 219 ⟨[.slice dst cy cz, .bool (!decide (x48 = 0)), .int .u64 ae, .int .i64 x95]⟩ w5 fun e w6 => ∃ (x96 : Ptr) (dh di : Nat), e = .returned (.slice x96 dh di) ∧
 R (.slice x96 dh di) w6) ∧ (decide (fmt = 98) = false →
 ∀ af : Bool → World → Prop, (∀ ag : Bool, ∀ w7,
 ((ag = true →
 Calls prog 220 ⟨[.slice dst cy cz, .int .i64 da, .int .u8 fmt, .bool (!decide (x48 = 0)), .int .u64 ae, .int .i64 x87, .int .i64 ab]⟩ w7 fun e w8 => ∃ (ct : Ptr) (dj dk : Nat), e = .returned (.slice ct dj dk) ∧
 R (.slice ct dj dk) w8) ∧ (ag = false →
 (decide (ae = 0) = true →
 Calls prog 221 ⟨[.slice dst cy cz, .bool (!decide (x48 = 0)), .slice none 0 0, .int .i64 0, .int .i64 0, .int .i64 da, .int .u8 fmt, .bool (decide (da < 0))]⟩ w7 fun e w9 => ∃ (cu : Ptr) (dl dm : Nat), e = .returned (.slice cu dl dm) ∧
 R (.slice cu dl dm) w9) ∧ (decide (ae = 0) = false →
 (decide (da < 0) = true →
 ∀ w10, w10 = w7.alloc (.cells ⟨[.int .u8 0, .int .u8 0, .int .u8 0, .int .u8 0, .int .u8 0, .int .u8 0, .int .u8 0, .int .u8 0, .int .u8 0, .int .u8 0, .int .u8 0, .int .u8 0, .int .u8 0, .int .u8 0, .int .u8 0, .int .u8 0, .int .u8 0, .int .u8 0, .int .u8 0, .int .u8 0, .int .u8 0, .int .u8 0, .int .u8 0, .int .u8 0, .int .u8 0, .int .u8 0, .int .u8 0, .int .u8 0, .int .u8 0, .int .u8 0, .int .u8 0, .int .u8 0]⟩ 294) →
 Calls prog 173 ⟨[.int .u64 ae]⟩ w10 fun e w11 => ∃ ah : Int, e = .returned (.int .i64 ah) ∧
 ∃ ai : Int, IntKind.i64.wrap (64 - ah) = ai ∧
 (0 : Int) ≤ ai ∧ ∃ aj : Int, IntKind.u64.wrap (ae * 2 ^ (min ai.toNat 64)) = aj ∧
 ∃ ak : Int, IntKind.i64.wrap (x87 - ai) = ak ∧
 ∃ al : Int, IntKind.i64.wrap (ak - ab) = al ∧
 Calls prog 228 ⟨[.int .u64 aj, .int .i64 al]⟩ w11 fun e w12 => ∃ am ao : Int, e = .returned (.tuple ⟨[.int .u64 am, .int .i64 ao]⟩) ∧
 ∃ f : List (Addr × Value), Kept w12 f ∧
 Calls prog 119 ⟨[.int .u64 am]⟩ w12.drew fun e w13 => ∃ ap : Int, e = .returned (.int .i64 ap) ∧
 Calls prog 223 ⟨[.slice (some (⟨w7.heap.size, 0, none⟩)) 32 32, .int .u64 am, .int .i64 ao, .int .i64 ap]⟩ w13 fun e w14 => ∃ aq ar : Int, e = .returned (.tuple ⟨[.int .i64 aq, .int .i64 ar]⟩) ∧
 ∀ au : Int → World → Prop, (∀ av : Int, ∀ w15,
 (Calls prog 221 ⟨[.slice dst cy cz, .bool (!decide (x48 = 0)), .slice (some (⟨w7.heap.size, 0, none⟩)) 32 32, .int .i64 aq, .int .i64 ar, .int .i64 av, .int .u8 fmt, .bool true]⟩ w15 fun e w16 => ∃ (cv : Ptr) (dn dq : Nat), e = .returned (.slice cv dn dq) ∧
 R (.slice cv dn dq) w16) → au av w15) →
 ∀ aw : Bool → World → Prop, (∀ ax : Bool, ∀ w17,
 ((ax = true →
 ∃ ay : Int, IntKind.i64.wrap (ar - 1) = ay ∧
 ∃ az : Int, (if (0 : Int) > ay then 0 else ay) = az ∧
 au az w17) ∧ (ax = false →
 (decide (fmt = 102) = true →
 ∃ ba : Int, IntKind.i64.wrap (ar - aq) = ba ∧
 ∃ bb : Int, (if (0 : Int) > ba then 0 else ba) = bb ∧
 au bb w17) ∧ (decide (fmt = 102) = false →
 (decide (fmt = 103) = true →
 (decide (fmt = 103) = true →
 au ar w17) ∧ (decide (fmt = 103) = false →
 au da w17)) ∧ (decide (fmt = 103) = false →
 (decide (fmt = 71) = true →
 au ar w17) ∧ (decide (fmt = 71) = false →
 au da w17))))) → aw ax w17) →
 (decide (fmt = 101) = true →
 aw (decide (fmt = 101)) w14) ∧ (decide (fmt = 101) = false →
 aw (decide (fmt = 69)) w14)) ∧ (decide (da < 0) = false →
 ∀ bc : Int → World → Prop, (∀ bd : Int, ∀ w18,
 (∀ w19, w19 = w18.alloc (.cells ((zeros prog 302).getD #[]) 302) →
 Calls prog 225 ⟨[.pointer (some (⟨w18.heap.size, 0, none⟩)), .int .u64 ae]⟩ w19 fun e w20 => e = .returned (.tuple ⟨[]⟩) ∧
 ∃ be : Int, IntKind.i64.wrap (x87 - ab) = be ∧
 Calls prog 226 ⟨[.pointer (some (⟨w18.heap.size, 0, none⟩)), .int .i64 be]⟩ w20 fun e w21 => e = .returned (.tuple ⟨[]⟩) ∧
 ∀ bf : Int → World → Prop, (∀ bg : Int, ∀ w22,
 (∃ f_1 : List (Addr × Value), Kept w22 f_1 ∧
 ∃ bh : Int, (⟨w18.heap.size, 801, none⟩, .int .i64 bh) ∈ f_1 ∧
 ∃ bi : Int, (⟨w18.heap.size, 800, none⟩, .int .i64 bi) ∈ f_1 ∧
 Calls prog 221 ⟨[.slice dst cy cz, .bool (!decide (x48 = 0)), .slice (some (⟨w18.heap.size, 0, none⟩)) 800 800, .int .i64 bh, .int .i64 bi, .int .i64 bg, .int .u8 fmt, .bool false]⟩ w22.drew fun e w23 => ∃ (cw : Ptr) (dr ds : Nat), e = .returned (.slice cw dr ds) ∧
 R (.slice cw dr ds) w23) → bf bg w22) →
 ∀ bj : Bool → World → Prop, (∀ bk : Bool, ∀ w24,
 ((bk = true →
 ∃ bl : Int, IntKind.i64.wrap (bd + 1) = bl ∧
 Calls prog 227 ⟨[.pointer (some (⟨w18.heap.size, 0, none⟩)), .int .i64 bl]⟩ w24 fun e w25 => e = .returned (.tuple ⟨[]⟩) ∧
 bf bd w25) ∧ (bk = false →
 (decide (fmt = 102) = true →
 ∃ bm : Int, w24.cell? ⟨w18.heap.size, 801, none⟩ = some (.int .i64 bm) ∧
 ∃ bn : Int, IntKind.i64.wrap (bm + bd) = bn ∧
 Calls prog 227 ⟨[.pointer (some (⟨w18.heap.size, 0, none⟩)), .int .i64 bn]⟩ w24 fun e w26 => e = .returned (.tuple ⟨[]⟩) ∧
 bf bd w26) ∧ (decide (fmt = 102) = false →
 ∀ bo : Bool → World → Prop, (∀ bp : Bool, ∀ w27,
 ((bp = true →
 (decide (bd = 0) = true →
 Calls prog 227 ⟨[.pointer (some (⟨w18.heap.size, 0, none⟩)), .int .i64 1]⟩ w27 fun e w28 => e = .returned (.tuple ⟨[]⟩) ∧
 bf 1 w28) ∧ (decide (bd = 0) = false →
 Calls prog 227 ⟨[.pointer (some (⟨w18.heap.size, 0, none⟩)), .int .i64 bd]⟩ w27 fun e w29 => e = .returned (.tuple ⟨[]⟩) ∧
 bf bd w29)) ∧ (bp = false →
 bf bd w27)) → bo bp w27) →
 (decide (fmt = 103) = true →
 bo (decide (fmt = 103)) w24) ∧ (decide (fmt = 103) = false →
 bo (decide (fmt = 71)) w24)))) → bj bk w24) →
 (decide (fmt = 101) = true →
 bj (decide (fmt = 101)) w21) ∧ (decide (fmt = 101) = false →
 bj (decide (fmt = 69)) w21)) → bc bd w18) →
 ∃ bq : Bool, w7.cell? ⟨7, 0, none⟩ = some (.bool bq) ∧
 (bq = true →
 ∀ br : Int → Int → World → Prop, (∀ bs : Int, ∀ bt : Int, ∀ w30,
 ((decide (bt ≤ 18) = true →
 ∀ w31, w31 = w30.alloc (.cells ⟨[.int .u8 0, .int .u8 0, .int .u8 0, .int .u8 0, .int .u8 0, .int .u8 0, .int .u8 0, .int .u8 0, .int .u8 0, .int .u8 0, .int .u8 0, .int .u8 0, .int .u8 0, .int .u8 0, .int .u8 0, .int .u8 0, .int .u8 0, .int .u8 0, .int .u8 0, .int .u8 0, .int .u8 0, .int .u8 0, .int .u8 0, .int .u8 0]⟩ 174) →
 ∀ bu : Int → Int → World → Prop, (∀ dp : Int, ∀ nd : Int, ∀ w32,
 (Calls prog 221 ⟨[.slice dst cy cz, .bool (!decide (x48 = 0)), .slice (some (⟨w30.heap.size, 0, none⟩)) 24 24, .int .i64 dp, .int .i64 nd, .int .i64 bs, .int .u8 fmt, .bool false]⟩ w32 fun e w33 => ∃ (cx : Ptr) (dt du : Nat), e = .returned (.slice cx dt du) ∧
 R (.slice cx dt du) w33) → bu dp nd w32) →
 (decide (0 < bt) = true →
 Calls prog 173 ⟨[.int .u64 ae]⟩ w31 fun e w34 => ∃ bv : Int, e = .returned (.int .i64 bv) ∧
 ∃ bw : Int, IntKind.i64.wrap (64 - bv) = bw ∧
 (0 : Int) ≤ bw ∧ ∃ bx : Int, IntKind.u64.wrap (ae * 2 ^ (min bw.toNat 64)) = bx ∧
 ∃ bz : Int, IntKind.i64.wrap (x87 - bw) = bz ∧
 ∃ ca : Int, IntKind.i64.wrap (bz - ab) = ca ∧
 Calls prog 224 ⟨[.int .u64 bx, .int .i64 ca, .int .i64 bt, .int .i64 bs, .int .u8 fmt]⟩ w34 fun e w35 => ∃ cb cc : Int, e = .returned (.tuple ⟨[.int .u64 cb, .int .i64 cc]⟩) ∧
 ((!decide (cb = 0)) = true →
 ∃ f_2 : List (Addr × Value), Kept w35 f_2 ∧
 Calls prog 119 ⟨[.int .u64 cb]⟩ w35.drew fun e w36 => ∃ cd : Int, e = .returned (.int .i64 cd) ∧
 Calls prog 223 ⟨[.slice (some (⟨w30.heap.size, 0, none⟩)) 24 24, .int .u64 cb, .int .i64 cc, .int .i64 cd]⟩ w36 fun e w37 => ∃ ce cf : Int, e = .returned (.tuple ⟨[.int .i64 ce, .int .i64 cf]⟩) ∧
 bu ce cf w37) ∧ ((!decide (cb = 0)) = false →
 bu 0 0 w35)) ∧ (decide (0 < bt) = false →
 bu 0 0 w31)) ∧ (decide (bt ≤ 18) = false →
 bc bs w30)) → br bs bt w30) →
 (decide (fmt = 102) = true →
 (decide (0 ≤ x87) = true →
 ∃ cg : Int, IntKind.i64.wrap (1 + x87) = cg ∧
 Calls prog 172 ⟨[.int .i64 cg]⟩ w7 fun e w38 => ∃ ch : Int, e = .returned (.int .i64 ch) ∧
 ∃ ci : Int, IntKind.i64.wrap (1 + ch) = ci ∧
 ∃ cj : Int, IntKind.i64.wrap (ci + da) = cj ∧
 br da cj w38) ∧ (decide (0 ≤ x87) = false →
 ∃ ck : Int, IntKind.i64.wrap (1 + da) = ck ∧
 ∃ cl : Int, IntKind.i64.wrap (0 - x87) = cl ∧
 Calls prog 172 ⟨[.int .i64 cl]⟩ w7 fun e w39 => ∃ cm : Int, e = .returned (.int .i64 cm) ∧
 ∃ cn : Int, IntKind.i64.wrap (ck - cm) = cn ∧
 br da cn w39)) ∧ (decide (fmt = 102) = false →
 ∀ co : Bool → World → Prop, (∀ cp : Bool, ∀ w40,
 ((cp = true →
 ∃ cq : Int, IntKind.i64.wrap (da + 1) = cq ∧
 br da cq w40) ∧ (cp = false →
 ∀ cr : Bool → World → Prop, (∀ cs : Bool, ∀ w41,
 ((cs = true →
 (decide (da = 0) = true →
 br 1 1 w41) ∧ (decide (da = 0) = false →
 br da da w41)) ∧ (cs = false →
 br da 1 w41)) → cr cs w41) →
 (decide (fmt = 103) = true →
 cr (decide (fmt = 103)) w40) ∧ (decide (fmt = 103) = false →
 cr (decide (fmt = 71)) w40))) → co cp w40) →
 (decide (fmt = 101) = true →
 co (decide (fmt = 101)) w7) ∧ (decide (fmt = 101) = false →
 co (decide (fmt = 69)) w7))) ∧ (bq = false →
 bc da w7))))) → af ag w7) →
 (decide (fmt = 120) = true →
 af true w5) ∧ (decide (fmt = 120) = false →
 af (decide (fmt = 88)) w5))) → ad exp ae w5) →
 (decide (x57 = 0) = true →
 ∃ x80 : Int, IntKind.i64.wrap (x57 + 1) = x80 ∧
 ad x80 x62 w1.drew) ∧ (decide (x57 = 0) = false →
 (0 : Int) ≤ ab ∧ ∃ x83 : Int, IntKind.u64.wrap (1 * 2 ^ (min ab.toNat 64)) = x83 ∧
 ∃ x84 : Int, bits .or .u64 x62 x83 = x84 ∧
 ad x57 x84 w1.drew))) → Kx b aa ab ac w1) →
 (decide ((64 : Int) = 32) = true →
 ∃ x37 : Nat, ∃ w42, (convert 52 240 (.float .f64 val)).run prog w = .ok (.float .f64 x37) w42 ∧
 ∃ x38 : Int, ∃ w43, (callFunc 217 ⟨[.float .f64 x37]⟩).run prog w42 = .ok (.value (.int .u32 x38)) w43 ∧
 ∃ x39 : Int, IntKind.u64.wrap x38 = x39 ∧
 Kx x39 8 23 (-127) w43) ∧ (decide ((64 : Int) = 32) = false →
 (decide ((64 : Int) = 64) = true →
 ∃ x43 : Int, ∃ w44, (callFunc 218 ⟨[.float .f64 val]⟩).run prog w = .ok (.value (.int .u64 x43)) w44 ∧
 Kx x43 11 52 (-1023) w44) ∧ (decide ((64 : Int) = 64) = false →
 Kx 0 0 0 0 w))
def an171 : Ann :=
 .k .z
 (.k .z
 (.k .z
 (.cut [(9, .int .u64), (10, .int .i64), (11, .int .i64), (12, .int .i64)] [0, 2, 3] (.block (.k .z
 (.cond 63 64 (.k (.t [.q, .s [.float], .s [.int .u32]])
 (.k .z
 (.k .z
 .z))) (.k .z
 (.cond 65 66 (.k (.t [.q, .s [.int .u64]])
 (.k .z
 (.k .z
 .z))) .l)))))
 (.k .z
 (.k (.reg (.loads (.take 0 (.q) (.take 1 (.q) (.take 2 (.q) (.take 3 (.q) (.take 4 (.q) (.take 5 (.q) (.take 6 (.q) (.take 7 (.q) (.take 8 (.q) .done)))))))))))
 (.k .z
 (.k (.k .z
 (.cond 1 2 (.k (.k .z
 (.cond 3 4 (.k (.t [.q, .s [.slice]])
 .l) .l))
 (.k (.k .z
 (.cond 5 6 (.k (.t [.q, .s [.slice]])
 .l) .l))
 (.k (.t [.q, .s [.slice]])
 .l))) .l))
 (.cut [(14, .int .i64), (15, .int .u64)] [0, 2, 3, 11, 12, 13] (.k .z
 (.cond 61 62 .z .z))
 (.k .z
 (.k (.k .z
 (.cond 7 8 (.k (.t [.q, .q, .q, .q, .q, .q, .s [.slice]])
 .l) .l))
 (.k (.cut [(102, .bool)] [0, 2, 3, 11, 13, 14, 15] (.t [.q, .q, .q, .gs .n 59 60])
 (.cond 9 10 (.k (.t [.q, .q, .q, .q, .q, .q, .q, .s [.slice]])
 .l) .l))
 (.k (.k .z
 (.cond 11 12 (.k (.t [.q, .q, .q, .q, .q, .q, .s [.slice]])
 .l) .l))
 (.k (.k .z
 (.cond 13 14 (.k .z
 (.k (.t [.q, .s [.int .i64]])
 (.k .z
 (.k .z
 (.k (.t [.q, .q, .q, .q, .s [.int .u64, .int .i64]])
 (.k (.reg (.held [4, 5] (.take 0 (.q) (.take 1 (.q) (.take 2 (.q) (.take 3 (.q) (.run 4 (.s [.int .i64]) (.run 5 (.s [.int .i64, .int .i64]) (.take 6 (.q) (.take 7 (.q) (.take 8 (.q) (.take 9 (.q) (.take 10 (.q) .done))))) .done) .done)))))))
 (.cut [(3, .int .i64)] [0, 2, 13, 16, 22, 23] (.k .z
 (.block (.cut [(149, .bool)] [0, 2, 3, 13, 16, 22, 23, 148] (.k .z
 (.cond 23 24 .l .z))
 (.cond 15 16 .z (.k .z
 (.cond 17 18 .z (.k (.k .z
 (.cond 19 20 .l .z))
 (.cond 21 22 .z .l))))))))
 (.k (.t [.q, .q, .q, .q, .q, .q, .q, .s [.slice]])
 .l)))))))) .l))
 (.cut [(3, .int .i64)] [0, 2, 11, 13, 14, 15] (.k (.t [.s [.bool]])
 (.cond 37 38 (.k .z
 (.cut [(3, .int .i64), (24, .int .i64)] [0, 2, 11, 13, 14, 15] (.k .z
 (.block (.k .z
 (.cond 45 46 (.k .z
 (.cond 47 48 (.t [.q, .q, .s [.int .i64]]) (.t [.q, .q, .q, .q, .s [.int .i64]]))) (.cut [(192, .bool)] [0, 2, 3, 11, 13, 14, 15, 24, 175] (.k .z
 (.cond 57 58 .l .z))
 (.cond 49 50 .z (.cut [(197, .bool)] [0, 2, 3, 11, 13, 14, 15] (.k .z
 (.cond 55 56 .l .z))
 (.cond 51 52 (.k (.k .z
 (.cond 53 54 .z .l))
 .z) .z))))))))
 (.k .z
 (.cond 39 40 (.k .z
 (.k .z
 (.cut [(26, .int .i64), (27, .int .i64)] [0, 2, 3, 13, 25] (.k .z
 (.cond 41 42 (.k (.t [.q, .s [.int .i64]])
 (.k .z
 (.k .z
 (.k (.t [.q, .q, .q, .q, .q, .q, .q, .s [.int .u64, .int .i64]])
 (.k .z
 (.cond 43 44 (.reg (.held [4, 5] (.take 0 (.q) (.take 1 (.q) (.take 2 (.q) (.take 3 (.q) (.run 4 (.s [.int .i64]) (.run 5 (.s [.int .i64, .int .i64]) (.take 6 (.q) (.take 7 (.q) (.take 8 (.q) (.take 9 (.q) (.take 10 (.q) .done))))) .done) .done))))))) .l)))))) .l))
 (.k (.t [.q, .q, .q, .q, .q, .q, .q, .s [.slice]])
 .l)))) .l)))) .l))
 (.k .z
 (.k (.t [.q, .q, .s []])
 (.k (.t [.q, .q, .q, .q, .s []])
 (.cut [(3, .int .i64)] [0, 2, 13, 33] (.k .z
 (.block (.cut [(256, .bool)] [0, 2, 3, 13, 33, 255] (.k .z
 (.cond 35 36 .l .z))
 (.cond 25 26 (.t [.q, .q, .q, .s []]) (.k .z
 (.cond 27 28 (.t [.q, .q, .q, .q, .s [.int .i64], .q, .q, .s []]) (.cut [(273, .bool)] [0, 2, 3, 13, 33] (.k .z
 (.cond 33 34 .l .z))
 (.cond 29 30 (.k (.k .z
 (.cond 31 32 .z .l))
 (.t [.q, .q, .s []])) .l))))))))
 (.k (.reg (.held [16] (.take 0 (.q) (.take 1 (.q) (.take 2 (.q) (.take 3 (.q) (.take 4 (.q) (.take 5 (.q) (.take 6 (.q) (.take 7 (.q) (.take 8 (.q) (.take 9 (.s [.int .i64]) (.take 10 (.q) (.take 11 (.q) (.take 12 (.q) (.take 13 (.s [.int .i64]) (.take 14 (.q) (.take 15 (.q) (.run 16 (.s [.slice]) (.take 17 (.q) .done) .done)))))))))))))))))))
 .l)))))))))))))))))))
theorem c171 (dst : Ptr) (aa ab : Nat) (val : Nat) (fmt : Int) (ac : Int) (w : World) (R : RR) (hvc : VC171 dst aa ab val fmt ac w R) : CR 171 [.slice dst aa ab, .float .f64 val, .int .u8 fmt, .int .i64 ac] w R :=
 vcc (fn := f171) (ann := an171) hvc (by kernel_rfl) (by kernel_rfl)
def VC228 (m : Int) (ex : Int) (w : World) (R : RR) : Prop :=
 ∀ Kx : Int → Int → World → Prop, (∀ aa : Int, ∀ ab : Int, ∀ w1,
 (∃ x21 : Int, IntKind.i64.wrap (63 - aa) = x21 ∧
 ∀ ac : Int → Int → Int → Int → World → Prop, (∀ p : Int, ∀ min : Int, ∀ max : Int, ∀ odd : Int, ∀ w2,
 (∀ w3, w3 = w2.alloc (.cells ⟨[.int .u64 0, .int .u64 0, .int .i64 0]⟩ 331) →
 Calls prog 259 ⟨[.int .i64 p]⟩ w3 fun e w4 => ∃ ad : Int, e = .returned (.int .i64 ad) ∧
 Calls prog 258 ⟨[.pointer (some (⟨w2.heap.size, 0, none⟩)), .int .i64 ex, .int .i64 p, .int .i64 ad]⟩ w4 fun e w5 => e = .returned (.tuple ⟨[]⟩) ∧
 Calls prog 260 ⟨[.int .u64 min, .pointer (some (⟨w2.heap.size, 0, none⟩))]⟩ w5 fun e w6 => ∃ ae : Int, e = .returned (.int .u64 ae) ∧
 Calls prog 261 ⟨[.int .u64 ae, .int .i64 odd]⟩ w6 fun e w7 => ∃ af : Int, e = .returned (.int .u64 af) ∧
 Calls prog 262 ⟨[.int .u64 af]⟩ w7 fun e w8 => ∃ ag : Int, e = .returned (.int .u64 ag) ∧
 Calls prog 260 ⟨[.int .u64 max, .pointer (some (⟨w2.heap.size, 0, none⟩))]⟩ w8 fun e w9 => ∃ ah : Int, e = .returned (.int .u64 ah) ∧
 ∃ ai : Int, IntKind.i64.wrap (0 - odd) = ai ∧
 Calls prog 261 ⟨[.int .u64 ah, .int .i64 ai]⟩ w9 fun e w10 => ∃ aj : Int, e = .returned (.int .u64 aj) ∧
 Calls prog 263 ⟨[.int .u64 aj]⟩ w10 fun e w11 => ∃ ak : Int, e = .returned (.int .u64 ak) ∧
 (10 : Int) ≠ 0 ∧ ∃ al : Int, IntKind.u64.wrap (Int.tdiv ak 10) = al ∧
 ∃ am : Int, IntKind.u64.wrap (al * 10) = am ∧
 (decide (ag ≤ am) = true →
 ∃ ao : Int, IntKind.i64.wrap (p - 1) = ao ∧
 ∃ ap : Int, IntKind.i64.wrap (0 - ao) = ap ∧
 R (.tuple ⟨[.int .u64 al, .int .i64 ap]⟩) w11) ∧ (decide (ag ≤ am) = false →
 (decide (ag < ak) = true →
 Calls prog 260 ⟨[.int .u64 m, .pointer (some (⟨w2.heap.size, 0, none⟩))]⟩ w11 fun e w12 => ∃ aq : Int, e = .returned (.int .u64 aq) ∧
 Calls prog 264 ⟨[.int .u64 aq]⟩ w12 fun e w13 => ∃ ar : Int, e = .returned (.int .u64 ar) ∧
 ∃ au : Int, IntKind.i64.wrap (0 - p) = au ∧
 R (.tuple ⟨[.int .u64 ar, .int .i64 au]⟩) w13) ∧ (decide (ag < ak) = false →
 ∃ av : Int, IntKind.i64.wrap (0 - p) = av ∧
 R (.tuple ⟨[.int .u64 ag, .int .i64 av]⟩) w11))) → ac p min max odd w2) →
 ∀ aw : Bool → World → Prop, (∀ x28 : Bool, ∀ w14,
 ((x28 = true →
 ∃ x31 : Int, IntKind.i64.wrap (ex + x21) = x31 ∧
 Calls prog 257 ⟨[.int .i64 x31]⟩ w14 fun e w15 => ∃ x32 : Int, e = .returned (.int .i64 x32) ∧
 ∃ x33 : Int, IntKind.i64.wrap (0 - x32) = x33 ∧
 ∃ x36 : Int, IntKind.i64.wrap (x21 - 2) = x36 ∧
 (0 : Int) ≤ x36 ∧ ∃ x37 : Int, IntKind.u64.wrap (1 * 2 ^ (min x36.toNat 64)) = x37 ∧
 ∃ x38 : Int, IntKind.u64.wrap (m - x37) = x38 ∧
 ∃ x41 : Int, IntKind.i64.wrap (x21 - 1) = x41 ∧
 (0 : Int) ≤ x41 ∧ ∃ x42 : Int, IntKind.u64.wrap (1 * 2 ^ (min x41.toNat 64)) = x42 ∧
 ∃ x43 : Int, IntKind.u64.wrap (m + x42) = x43 ∧
 (0 : Int) ≤ x21 ∧ ∃ x46 : Int, Int.fdiv m (2 ^ (min x21.toNat 64)) = x46 ∧
 ∃ x47 : Int, IntKind.i64.wrap x46 = x47 ∧
 ∃ x48 : Int, bits .and .i64 x47 1 = x48 ∧
 ac x33 x38 x43 x48 w15) ∧ (x28 = false →
 (decide (ab ≤ ex) = true →
 ∃ x54 : Int, IntKind.i64.wrap (ex + x21) = x54 ∧
 Calls prog 172 ⟨[.int .i64 x54]⟩ w14 fun e w16 => ∃ x55 : Int, e = .returned (.int .i64 x55) ∧
 ∃ x56 : Int, IntKind.i64.wrap (0 - x55) = x56 ∧
 ∃ x59 : Int, IntKind.i64.wrap (x21 - 1) = x59 ∧
 (0 : Int) ≤ x59 ∧ ∃ x60 : Int, IntKind.u64.wrap (1 * 2 ^ (min x59.toNat 64)) = x60 ∧
 ∃ x61 : Int, IntKind.u64.wrap (m - x60) = x61 ∧
 ∃ x64 : Int, IntKind.i64.wrap (x21 - 1) = x64 ∧
 (0 : Int) ≤ x64 ∧ ∃ x65 : Int, IntKind.u64.wrap (1 * 2 ^ (min x64.toNat 64)) = x65 ∧
 ∃ x66 : Int, IntKind.u64.wrap (m + x65) = x66 ∧
 (0 : Int) ≤ x21 ∧ ∃ x69 : Int, Int.fdiv m (2 ^ (min x21.toNat 64)) = x69 ∧
 ∃ x70 : Int, IntKind.i64.wrap x69 = x70 ∧
 ∃ x71 : Int, bits .and .i64 x70 1 = x71 ∧
 ac x56 x61 x66 x71 w16) ∧ (decide (ab ≤ ex) = false →
 ∃ x75 : Int, IntKind.i64.wrap (ab - ex) = x75 ∧
 ∃ x76 : Int, IntKind.i64.wrap (x21 + x75) = x76 ∧
 ∃ x79 : Int, IntKind.i64.wrap (ex + x76) = x79 ∧
 Calls prog 172 ⟨[.int .i64 x79]⟩ w14 fun e w17 => ∃ x80 : Int, e = .returned (.int .i64 x80) ∧
 ∃ x81 : Int, IntKind.i64.wrap (0 - x80) = x81 ∧
 ∃ x84 : Int, IntKind.i64.wrap (x76 - 1) = x84 ∧
 (0 : Int) ≤ x84 ∧ ∃ x85 : Int, IntKind.u64.wrap (1 * 2 ^ (min x84.toNat 64)) = x85 ∧
 ∃ x86 : Int, IntKind.u64.wrap (m - x85) = x86 ∧
 ∃ x89 : Int, IntKind.i64.wrap (x76 - 1) = x89 ∧
 (0 : Int) ≤ x89 ∧ ∃ x90 : Int, IntKind.u64.wrap (1 * 2 ^ (min x89.toNat 64)) = x90 ∧
 ∃ x91 : Int, IntKind.u64.wrap (m + x90) = x91 ∧
 (0 : Int) ≤ x76 ∧ ∃ x94 : Int, Int.fdiv m (2 ^ (min x76.toNat 64)) = x94 ∧
 ∃ x95 : Int, IntKind.i64.wrap x94 = x95 ∧
 ∃ x96 : Int, bits .and .i64 x95 1 = x96 ∧
 ac x81 x86 x91 x96 w17))) → aw x28 w14) →
 (decide (m = 9223372036854775808) = true →
 aw (decide (ab < ex)) w1) ∧ (decide (m = 9223372036854775808) = false →
 aw false w1)) → Kx aa ab w1) →
 ∃ x15 : Int, IntKind.u64.wrap (8 * 8) = x15 ∧
 (decide (x15 = 32) = true →
 Kx 23 (-189) w) ∧ (decide (x15 = 32) = false →
 (decide (x15 = 64) = true →
 Kx 52 (-1085) w) ∧ (decide (x15 = 64) = false →
 Kx 0 0 w))
def an228 : Ann :=
 .k .z
 (.k .z
 (.cut [(6, .int .i64), (7, .int .i64)] [0, 1] (.k .z
 (.block (.k .z
 (.cond 11 12 (.k .z
 .z) (.k .z
 (.cond 13 14 (.k .z
 .z) .l))))))
 (.k .z
 (.k .z
 (.k .z
 (.cut [(5, .int .i64), (8, .int .u64), (9, .int .u64), (10, .int .i64)] [0, 1] (.cut [(28, .bool)] [0, 1, 7, 11] (.t [.q, .q, .q, .gs .n 9 10])
 (.cond 5 6 (.k (.t [.q, .q, .q, .s [.int .i64]])
 (.k .z
 (.k .z
 .z))) (.k .z
 (.cond 7 8 (.k (.t [.q, .q, .q, .s [.int .i64]])
 (.k .z
 (.k .z
 .z))) (.k .z
 (.k (.t [.q, .q, .q, .s [.int .i64]])
 (.k .z
 (.k .z
 .z))))))))
 (.k .z
 (.k (.t [.q, .q, .q, .s [.int .i64], .s []])
 (.k (.t [.q, .s [.int .u64], .q, .s [.int .u64], .s [.int .u64]])
 (.k (.t [.q, .s [.int .u64], .q, .q, .s [.int .u64], .s [.int .u64]])
 (.k (.k .z
 (.k .z
 (.cond 1 2 .zl .l)))
 (.k (.k .z
 (.k .z
 (.cond 3 4 (.t [.q, .s [.int .u64], .s [.int .u64]]) .l)))
 .zl))))))))))))
theorem c228 (m : Int) (ex : Int) (w : World) (R : RR) (hvc : VC228 m ex w R) : CR 228 [.int .u64 m, .int .i64 ex] w R :=
 vcc (fn := f228) (ann := an228) hvc (by kernel_rfl) (by kernel_rfl)
def VC258 (pre : Addr) (ex : Int) (p : Int) (lp : Int) (w : World) (R : RR) : Prop :=
 ∃ x10 : Int, IntKind.i64.wrap (p - (-348)) = x10 ∧
 ((0 : Int) ≤ x10 ∧ x10 < (696 : Int)) ∧
 ∃ x13 : Int, w.cell? ((⟨15, 0, none⟩ : Addr).add (x10.toNat * 2)) = some (.int .u64 x13) ∧
 CanStore w pre (.int .u64 x13) ∧ ∀ w1, w1 = w.setCell pre (.int .u64 x13) →
 ∃ x18 : Int, IntKind.i64.wrap (p - (-348)) = x18 ∧
 ((0 : Int) ≤ x18 ∧ x18 < (696 : Int)) ∧
 ∃ x21 : Int, w1.cell? (((⟨15, 0, none⟩ : Addr).add (x18.toNat * 2)).add 1) = some (.int .u64 x21) ∧
 CanStore w1 (pre.add 1) (.int .u64 x21) ∧ ∀ w2, w2 = w1.setCell (pre.add 1) (.int .u64 x21) →
 ∃ x27 : Int, IntKind.i64.wrap (ex + lp) = x27 ∧
 ∃ x28 : Int, IntKind.i64.wrap (x27 + 3) = x28 ∧
 ∃ x29 : Int, IntKind.i64.wrap (0 - x28) = x29 ∧
 CanStore w2 (pre.add 2) (.int .i64 x29) ∧ ∀ w3, w3 = w2.setCell (pre.add 2) (.int .i64 x29) →
 R (.tuple ⟨[]⟩) w3
def an258 : Ann :=
 .k (.t [.q, .q, .q, .q, .q, .s [.int .u64]])
 (.k (.t [.q, .q, .q, .q, .q, .s [.int .u64]])
 .z)
theorem c258 (pre : Addr) (ex : Int) (p : Int) (lp : Int) (w : World) (R : RR) (hvc : VC258 pre ex p lp w R) : CR 258 [.pointer (some pre), .int .i64 ex, .int .i64 p, .int .i64 lp] w R :=
 vcc (fn := f258) (ann := an258) hvc (by kernel_rfl) (by kernel_rfl)
def VC260 (x : Int) (c : Addr) (w : World) (R : RR) : Prop :=
 ∃ x15 : Int, w.cell? c = some (.int .u64 x15) ∧
 Calls prog 281 ⟨[.int .u64 x, .int .u64 x15]⟩ w fun e w1 => ∃ x16 aa : Int, e = .returned (.tuple ⟨[.int .u64 x16, .int .u64 aa]⟩) ∧
 ∃ x22 : Int, w1.cell? (c.add 2) = some (.int .i64 x22) ∧
 ∃ x23 : Int, bits .and .i64 x22 63 = x23 ∧
 (0 : Int) ≤ x23 ∧ ∃ x26 : Int, Int.fdiv x16 (2 ^ (min x23.toNat 64)) = x26 ∧
 (0 : Int) ≤ x23 ∧ ∃ x28 : Int, IntKind.u64.wrap (x26 * 2 ^ (min x23.toNat 64)) = x28 ∧
 ((!decide (x28 = x16)) = true →
 (0 : Int) ≤ x23 ∧ ∃ x33 : Int, Int.fdiv x16 (2 ^ (min x23.toNat 64)) = x33 ∧
 ∃ x34 : Int, bits .or .u64 x33 1 = x34 ∧
 R (.int .u64 x34) w1) ∧ ((!decide (x28 = x16)) = false →
 ∃ x40 : Int, w1.cell? (c.add 1) = some (.int .u64 x40) ∧
 Calls prog 281 ⟨[.int .u64 x, .int .u64 x40]⟩ w1 fun e w2 => ∃ x41 ab : Int, e = .returned (.tuple ⟨[.int .u64 x41, .int .u64 ab]⟩) ∧
 Calls prog 282 ⟨[.bool (decide (aa < x41))]⟩ w2 fun e w3 => ∃ x48 : Int, e = .returned (.int .u64 x48) ∧
 ∃ x49 : Int, IntKind.u64.wrap (x16 - x48) = x49 ∧
 ∃ f : List (Addr × Value), Kept w3 f ∧
 (0 : Int) ≤ x23 ∧ ∃ x52 : Int, Int.fdiv x49 (2 ^ (min x23.toNat 64)) = x52 ∧
 ∃ x55 : Int, IntKind.u64.wrap (aa - x41) = x55 ∧
 Calls prog 282 ⟨[.bool (decide (1 < x55))]⟩ w3.drew fun e w4 => ∃ x57 : Int, e = .returned (.int .u64 x57) ∧
 ∃ x58 : Int, bits .or .u64 x52 x57 = x58 ∧
 R (.int .u64 x58) w4)
def an260 : Ann :=
 .k .z
 (.k (.t [.q, .q, .q, .q, .s [.int .u64], .s [.int .u64, .int .u64]])
 (.k (.t [.q, .q, .q, .s [.int .i64]])
 (.k (.k .z
 (.cond 1 2 .zl .l))
 (.k (.t [.q, .q, .q, .q, .s [.int .u64], .s [.int .u64, .int .u64]])
 (.k (.t [.q, .q, .q, .q, .s [.int .u64]])
 (.k (.reg (.held [7] (.take 0 (.q) (.take 1 (.q) (.take 2 (.q) (.take 3 (.q) (.take 4 (.q) (.take 5 (.q) (.take 6 (.q) (.run 7 (.s [.int .u64]) (.take 8 (.q) (.take 9 (.q) .done)) .done))))))))))
 .l))))))
theorem c260 (x : Int) (c : Addr) (w : World) (R : RR) (hvc : VC260 x c w R) : CR 260 [.int .u64 x, .pointer (some c)] w R :=
 vcc (fn := f260) (ann := an260) hvc (by kernel_rfl) (by kernel_rfl)
def VC261 (u : Int) (δ : Int) (w : World) (R : RR) : Prop :=
 ∃ x7 : Int, IntKind.u64.wrap δ = x7 ∧
 ∃ x8 : Int, IntKind.u64.wrap (u + x7) = x8 ∧
 R (.int .u64 x8) w
def an261 : Ann :=
 .k .z
 .zl
theorem c261 (u : Int) (δ : Int) (w : World) (R : RR) (hvc : VC261 u δ w R) : CR 261 [.int .u64 u, .int .i64 δ] w R :=
 vcc (fn := f261) (ann := an261) hvc (by kernel_rfl) (by kernel_rfl)
def VC262 (u : Int) (w : World) (R : RR) : Prop :=
 ∃ x4 : Int, IntKind.u64.wrap (u + 3) = x4 ∧
 (0 : Int) ≤ 2 ∧ ∃ x5 : Int, Int.fdiv x4 (2 ^ 2) = x5 ∧
 R (.int .u64 x5) w
def an262 : Ann :=
 .k .z
 .zl
theorem c262 (u : Int) (w : World) (R : RR) (hvc : VC262 u w R) : CR 262 [.int .u64 u] w R :=
 vcc (fn := f262) (ann := an262) hvc (by kernel_rfl) (by kernel_rfl)
def VC263 (u : Int) (w : World) (R : RR) : Prop :=
 ∃ x4 : Int, IntKind.u64.wrap (u + 0) = x4 ∧
 (0 : Int) ≤ 2 ∧ ∃ x5 : Int, Int.fdiv x4 (2 ^ 2) = x5 ∧
 R (.int .u64 x5) w
def an263 : Ann :=
 .k .z
 .zl
theorem c263 (u : Int) (w : World) (R : RR) (hvc : VC263 u w R) : CR 263 [.int .u64 u] w R :=
 vcc (fn := f263) (ann := an263) hvc (by kernel_rfl) (by kernel_rfl)
def VC264 (u : Int) (w : World) (R : RR) : Prop :=
 ∃ x4 : Int, IntKind.u64.wrap (u + 1) = x4 ∧
 (0 : Int) ≤ 2 ∧ ∃ x6 : Int, Int.fdiv u (2 ^ 2) = x6 ∧
 ∃ x7 : Int, bits .and .u64 x6 1 = x7 ∧
 ∃ x8 : Int, IntKind.u64.wrap (x4 + x7) = x8 ∧
 (0 : Int) ≤ 2 ∧ ∃ x9 : Int, Int.fdiv x8 (2 ^ 2) = x9 ∧
 R (.int .u64 x9) w
def an264 : Ann :=
 .k .z
 .zl
theorem c264 (u : Int) (w : World) (R : RR) (hvc : VC264 u w R) : CR 264 [.int .u64 u] w R :=
 vcc (fn := f264) (ann := an264) hvc (by kernel_rfl) (by kernel_rfl)
def VC257 (ex : Int) (w : World) (R : RR) : Prop :=
 ∃ x4 : Int, IntKind.i64.wrap (ex * 631305) = x4 ∧
 ∃ x5 : Int, IntKind.i64.wrap (x4 - 261663) = x5 ∧
 (0 : Int) ≤ 21 ∧ ∃ x6 : Int, Int.fdiv x5 (2 ^ 21) = x6 ∧
 R (.int .i64 x6) w
def an257 : Ann :=
 .k .z
 .zl
theorem c257 (ex : Int) (w : World) (R : RR) (hvc : VC257 ex w R) : CR 257 [.int .i64 ex] w R :=
 vcc (fn := f257) (ann := an257) hvc (by kernel_rfl) (by kernel_rfl)
def VC259 (x : Int) (w : World) (R : RR) : Prop :=
 ∃ x4 : Int, IntKind.i64.wrap (x * 108853) = x4 ∧
 (0 : Int) ≤ 15 ∧ ∃ x5 : Int, Int.fdiv x4 (2 ^ 15) = x5 ∧
 R (.int .i64 x5) w
def an259 : Ann :=
 .k .z
 .zl
theorem c259 (x : Int) (w : World) (R : RR) (hvc : VC259 x w R) : CR 259 [.int .i64 x] w R :=
 vcc (fn := f259) (ann := an259) hvc (by kernel_rfl) (by kernel_rfl)
def VC282 (b : Bool) (w : World) (R : RR) : Prop :=
 (b = true →
 R (.int .u64 1) w) ∧ (b = false →
 R (.int .u64 0) w)
def an282 : Ann :=
 .k .z
 (.k (.k .z
 (.cond 1 2 .zl .l))
 .zl)
theorem c282 (b : Bool) (w : World) (R : RR) (hvc : VC282 b w R) : CR 282 [.bool b] w R :=
 vcc (fn := f282) (ann := an282) hvc (by kernel_rfl) (by kernel_rfl)
def VC223 (s : Ptr) (s_n s_c : Nat) (d : Int) (p : Int) (nd : Int) (w : World) (R : RR) : Prop :=
 (decide (nd ≤ (s_n : Int)) = true →
 ((0 : Int) ≤ nd ∧ nd ≤ (s_c : Int)) ∧
 Calls prog 120 ⟨[.slice s nd.toNat s_c, .int .u64 d]⟩ w fun e w1 => e = .returned (.tuple ⟨[]⟩) ∧
 ∃ x21 : Int, IntKind.i64.wrap (nd + p) = x21 ∧
 ∃ Ix : Nat → Int → World → Prop, (∃ m_2, Ix m_2 nd w1) ∧
 ∀ m, ∀ aa : Int, ∀ w2, Ix m aa w2 →
 (decide (0 < aa) = true →
 ∃ x27 : Int, IntKind.i64.wrap (aa - 1) = x27 ∧
 ((0 : Int) ≤ x27 ∧ x27 < (s_n : Int)) ∧ ∃ sa : Addr, s = some sa ∧
 ∃ x29 : Int, w2.cell? (sa.add (x27.toNat * 1)) = some (.int .u8 x29) ∧
 (decide (x29 = 48) = true →
 ∃ x33 : Int, IntKind.i64.wrap (aa - 1) = x33 ∧
 ∃ m_1, m_1 < m ∧ Ix m_1 x33 w2) ∧ (decide (x29 = 48) = false →
 R (.tuple ⟨[.int .i64 x21, .int .i64 aa]⟩) w2)) ∧ (decide (0 < aa) = false →
 R (.tuple ⟨[.int .i64 x21, .int .i64 aa]⟩) w2)) ∧ (decide (nd ≤ (s_n : Int)) = false →
 R (.tuple ⟨[.int .i64 0, .int .i64 nd]⟩) w)
def an223 : Ann :=
 .k .z
 (.k (.k .z
 (.cond 1 2 (.k (.t [.q, .q, .q, .q, .s []])
 (.k .z
 (.block (.loop [(3, .int .i64)] [0, 8] (.k (.k (.t [.q, .q, .q, .gs .n 3 4, .q, .q, .on 4 (.q) (.s []), .on 4 (.q) (.s [.int .u8])])
 (.on 4 (.no .l) (.cond 5 6 .l .l)))
 (.block .z)))))) .l))
 .zl)
theorem c223 (s : Ptr) (s_n s_c : Nat) (d : Int) (p : Int) (nd : Int) (w : World) (R : RR) (hvc : VC223 s s_n s_c d p nd w R) : CR 223 [.slice s s_n s_c, .int .u64 d, .int .i64 p, .int .i64 nd] w R :=
 vcc (fn := f223) (ann := an223) hvc (by kernel_rfl) (by kernel_rfl)
def VC221 (dst : Ptr) (ek el : Nat) (neg : Bool) (s : Ptr) (s_n s_c : Nat) (dp : Int) (nd : Int) (em : Int) (fmt : Int) (en : Bool) (w : World) (R : RR) : Prop :=
 ∀ Kx : Int → Int → World → Prop, (∀ aa : Int, ∀ ab : Int, ∀ w1,
 (∀ ac : Bool → World → Prop, (∀ x75 : Bool, ∀ w2,
 ((x75 = true →
 ∀ ad : Ptr → Nat → Nat → World → Prop, (∀ (dh : Ptr) (eo ep : Nat), ∀ w3,
 (∀ ae : Int → World → Prop, (∀ ch : Int, ∀ w4,
 (∀ w5, w5 = w4.alloc (.cells ⟨[.int .u8 ch]⟩ 5) →
 ∃ (x90 : Ptr) (er es : Nat), ∃ w6, BuiltinOk prog .append #[23, 23] 23 [false, false] [.slice dh eo ep, .slice (some (⟨w4.heap.size, 0, none⟩)) 1 1] w5 (.slice x90 er es) w6 ∧
 ∀ af : Ptr → Nat → Nat → World → Prop, (∀ (di : Ptr) (et eu : Nat), ∀ w7,
 (∀ w8, w8 = w7.alloc (.cells ⟨[.int .u8 ab]⟩ 5) →
 ∃ (dj : Ptr) (ev ew : Nat), ∃ w9, BuiltinOk prog .append #[23, 23] 23 [false, false] [.slice di et eu, .slice (some (⟨w7.heap.size, 0, none⟩)) 1 1] w8 (.slice dj ev ew) w9 ∧
 ∃ ag : Int, IntKind.i64.wrap (dp - 1) = ag ∧
 ∀ ah : Int → World → Prop, (∀ exp : Int, ∀ w10,
 (∀ ai : Int → Int → World → Prop, (∀ aj : Int, ∀ ak : Int, ∀ w11,
 (∀ w12, w12 = w11.alloc (.cells ⟨[.int .u8 aj]⟩ 5) →
 ∃ (dk : Ptr) (ex ey : Nat), ∃ w13, BuiltinOk prog .append #[23, 23] 23 [false, false] [.slice dj ev ew, .slice (some (⟨w11.heap.size, 0, none⟩)) 1 1] w12 (.slice dk ex ey) w13 ∧
 (decide (ak < 10) = true →
 ∃ al : Int, IntKind.u8.wrap ak = al ∧
 ∃ am : Int, IntKind.u8.wrap (al + 48) = am ∧
 ∀ w14, w14 = w13.alloc (.cells ⟨[.int .u8 48, .int .u8 am]⟩ 5) →
 ∃ (dl : Ptr) (ez fa : Nat), ∃ w15, BuiltinOk prog .append #[23, 23] 23 [false, false] [.slice dk ex ey, .slice (some (⟨w13.heap.size, 0, none⟩)) 2 2] w14 (.slice dl ez fa) w15 ∧
 R (.slice dl ez fa) w15) ∧ (decide (ak < 10) = false →
 (decide (ak < 100) = true →
 (10 : Int) ≠ 0 ∧ ∃ ao : Int, IntKind.i64.wrap (Int.tdiv ak 10) = ao ∧
 ∃ ap : Int, IntKind.u8.wrap ao = ap ∧
 ∃ aq : Int, IntKind.u8.wrap (ap + 48) = aq ∧
 (10 : Int) ≠ 0 ∧ ∃ ar : Int, Int.tmod ak 10 = ar ∧
 ∃ au : Int, IntKind.u8.wrap ar = au ∧
 ∃ av : Int, IntKind.u8.wrap (au + 48) = av ∧
 ∀ w16, w16 = w13.alloc (.cells ⟨[.int .u8 aq, .int .u8 av]⟩ 5) →
 ∃ (dm : Ptr) (fb fc : Nat), ∃ w17, BuiltinOk prog .append #[23, 23] 23 [false, false] [.slice dk ex ey, .slice (some (⟨w13.heap.size, 0, none⟩)) 2 2] w16 (.slice dm fb fc) w17 ∧
 R (.slice dm fb fc) w17) ∧ (decide (ak < 100) = false →
 (100 : Int) ≠ 0 ∧ ∃ aw : Int, IntKind.i64.wrap (Int.tdiv ak 100) = aw ∧
 ∃ ax : Int, IntKind.u8.wrap aw = ax ∧
 ∃ ay : Int, IntKind.u8.wrap (ax + 48) = ay ∧
 (10 : Int) ≠ 0 ∧ ∃ az : Int, IntKind.i64.wrap (Int.tdiv ak 10) = az ∧
 ∃ ba : Int, IntKind.u8.wrap az = ba ∧
 (10 : Int) ≠ 0 ∧ ∃ bb : Int, Int.tmod ba 10 = bb ∧
 ∃ bc : Int, IntKind.u8.wrap (bb + 48) = bc ∧
 (10 : Int) ≠ 0 ∧ ∃ bd : Int, Int.tmod ak 10 = bd ∧
 ∃ be : Int, IntKind.u8.wrap bd = be ∧
 ∃ bf : Int, IntKind.u8.wrap (be + 48) = bf ∧
 ∀ w18, w18 = w13.alloc (.cells ⟨[.int .u8 ay, .int .u8 bc, .int .u8 bf]⟩ 5) →
 ∃ (dn : Ptr) (fd fe : Nat), ∃ w19, BuiltinOk prog .append #[23, 23] 23 [false, false] [.slice dk ex ey, .slice (some (⟨w13.heap.size, 0, none⟩)) 3 3] w18 (.slice dn fd fe) w19 ∧
 R (.slice dn fd fe) w19))) → ai aj ak w11) →
 (decide (exp < 0) = true →
 ∃ bg : Int, IntKind.i64.wrap (0 - exp) = bg ∧
 ai 45 bg w10) ∧ (decide (exp < 0) = false →
 ai 43 exp w10)) → ah exp w10) →
 (decide (nd = 0) = true →
 ah 0 w9) ∧ (decide (nd = 0) = false →
 ah ag w9)) → af di et eu w7) →
 (decide (0 < aa) = true →
 ∀ w20, w20 = w6.alloc (.cells ⟨[.int .u8 46]⟩ 5) →
 ∃ (x95 : Ptr) (ff fg : Nat), ∃ w21, BuiltinOk prog .append #[23, 23] 23 [false, false] [.slice x90 er es, .slice (some (⟨w6.heap.size, 0, none⟩)) 1 1] w20 (.slice x95 ff fg) w21 ∧
 ∃ x98 : Int, IntKind.i64.wrap (aa + 1) = x98 ∧
 ∃ x99 : Int, (if x98 < nd then x98 else nd) = x99 ∧
 ∀ bh : Ptr → Nat → Nat → Int → World → Prop, (∀ (dq : Ptr) (fh fi : Nat), ∀ i : Int, ∀ w22,
 (∃ bi : Int, IntKind.i64.wrap (aa + 1) = bi ∧
 ∃ bj : Int, IntKind.i64.wrap (bi - i) = bj ∧
 ∃ Ix : Nat → Ptr → Nat → Nat → Int → World → Prop, (∃ m_2, Ix m_2 dq fh fi 0 w22) ∧
 ∀ m, ∀ (dr : Ptr) (fj fk : Nat), ∀ bk : Int, ∀ w23, Ix m dr fj fk bk w23 →
 (decide (bk < bj) = true →
 ∀ w24, w24 = w23.alloc (.cells ⟨[.int .u8 48]⟩ 5) →
 ∃ (ds : Ptr) (fl fm : Nat), ∃ w25, BuiltinOk prog .append #[23, 23] 23 [false, false] [.slice dr fj fk, .slice (some (⟨w23.heap.size, 0, none⟩)) 1 1] w24 (.slice ds fl fm) w25 ∧
 ∃ bl : Int, IntKind.i64.wrap (bk + 1) = bl ∧
 ∃ m_1, m_1 < m ∧ Ix m_1 ds fl fm bl w25) ∧ (decide (bk < bj) = false →
 af dr fj fk w23)) → bh dq fh fi i w22) →
 (decide (1 < x99) = true →
 ((0 : Int) ≤ 1 ∧ (1 : Int) ≤ x99 ∧ x99 ≤ (s_c : Int)) ∧
 ∃ (dt : Ptr) (fo fp : Nat), ∃ w26, BuiltinOk prog .append #[23, 23] 23 [false, false] [.slice x95 ff fg, .slice (slAddr s s_c 1 1) (x99.toNat - 1) (s_c - 1)] w21 (.slice dt fo fp) w26 ∧
 bh dt fo fp x99 w26) ∧ (decide (1 < x99) = false →
 bh x95 ff fg 1 w21)) ∧ (decide (0 < aa) = false →
 af x90 er es w6)) → ae ch w4) →
 ((!decide (nd = 0)) = true →
 ((0 : Int) ≤ 0 ∧ 0 < (s_n : Int)) ∧ ∃ sa : Addr, s = some sa ∧
 ∃ x86 : Int, w3.cell? sa = some (.int .u8 x86) ∧
 ae x86 w3) ∧ ((!decide (nd = 0)) = false →
 ae 48 w3)) → ad dh eo ep w3) →
 (neg = true →
 ∀ w27, w27 = w2.alloc (.cells ⟨[.int .u8 45]⟩ 5) →
 ∃ (x81 : Ptr) (fq fr : Nat), ∃ w28, BuiltinOk prog .append #[23, 23] 23 [false, false] [.slice dst ek el, .slice (some (⟨w2.heap.size, 0, none⟩)) 1 1] w27 (.slice x81 fq fr) w28 ∧
 ad x81 fq fr w28) ∧ (neg = false →
 ad dst ek el w2)) ∧ (x75 = false →
 (decide (ab = 102) = true →
 ∀ bm : Ptr → Nat → Nat → World → Prop, (∀ (du : Ptr) (fs ft : Nat), ∀ w29,
 (∀ bn : Ptr → Nat → Nat → World → Prop, (∀ (dv : Ptr) (fu fv : Nat), ∀ w30,
 ((decide (0 < aa) = true →
 ∀ w31, w31 = w30.alloc (.cells ⟨[.int .u8 46]⟩ 5) →
 ∃ (dw : Ptr) (fw fx : Nat), ∃ w32, BuiltinOk prog .append #[23, 23] 23 [false, false] [.slice dv fu fv, .slice (some (⟨w30.heap.size, 0, none⟩)) 1 1] w31 (.slice dw fw fx) w32 ∧
 ∃ bo : Int, IntKind.i64.wrap (0 - dp) = bo ∧
 ∃ bp : Int, (if bo > 0 then bo else 0) = bp ∧
 ∃ bq : Int, (if bp < aa then bp else aa) = bq ∧
 ∃ br : Int, IntKind.i64.wrap (dp + bq) = br ∧
 ∃ bs : Int, IntKind.i64.wrap (aa - bq) = bs ∧
 ∃ bt : Int, IntKind.i64.wrap (nd - br) = bt ∧
 ∃ bu : Int, (if bt > 0 then bt else 0) = bu ∧
 ∃ bv : Int, (if bu < bs then bu else bs) = bv ∧
 ∃ bw : Int, IntKind.i64.wrap (aa - bq) = bw ∧
 ∃ bx : Int, IntKind.i64.wrap (bw - bv) = bx ∧
 ∃ bz : Int, (if bx > 0 then bx else 0) = bz ∧
 ∃ ca : Nat → Ptr → Nat → Nat → Int → World → Prop, (∃ m_5, ca m_5 dw fw fx 0 w32) ∧
 ∀ m_3, ∀ (dx : Ptr) (fy fz : Nat), ∀ cb : Int, ∀ w33, ca m_3 dx fy fz cb w33 →
 (decide (cb < bq) = true →
 ∀ w34, w34 = w33.alloc (.cells ⟨[.int .u8 48]⟩ 5) →
 ∃ (dy : Ptr) (ga gb : Nat), ∃ w35, BuiltinOk prog .append #[23, 23] 23 [false, false] [.slice dx fy fz, .slice (some (⟨w33.heap.size, 0, none⟩)) 1 1] w34 (.slice dy ga gb) w35 ∧
 ∃ cc : Int, IntKind.i64.wrap (cb + 1) = cc ∧
 ∃ m_4, m_4 < m_3 ∧ ca m_4 dy ga gb cc w35) ∧ (decide (cb < bq) = false →
 ∃ cd : Nat → Ptr → Nat → Nat → Int → World → Prop, (∃ m_8, cd m_8 dx fy fz 0 w33) ∧
 ∀ m_6, ∀ (dz : Ptr) (gc gd : Nat), ∀ ce : Int, ∀ w36, cd m_6 dz gc gd ce w36 →
 (decide (ce < bv) = true →
 ∃ cf : Int, IntKind.i64.wrap (br + ce) = cf ∧
 ((0 : Int) ≤ cf ∧ cf < (s_n : Int)) ∧ ∃ cg : Addr, s = some cg ∧
 ∃ ci : Int, w36.cell? (cg.add (cf.toNat * 1)) = some (.int .u8 ci) ∧
 ∀ w37, w37 = w36.alloc (.cells ⟨[.int .u8 ci]⟩ 5) →
 ∃ (ea : Ptr) (gf gg : Nat), ∃ w38, BuiltinOk prog .append #[23, 23] 23 [false, false] [.slice dz gc gd, .slice (some (⟨w36.heap.size, 0, none⟩)) 1 1] w37 (.slice ea gf gg) w38 ∧
 ∃ cj : Int, IntKind.i64.wrap (ce + 1) = cj ∧
 ∃ m_7, m_7 < m_6 ∧ cd m_7 ea gf gg cj w38) ∧ (decide (ce < bv) = false →
 ∃ ck : Nat → Ptr → Nat → Nat → Int → World → Prop, (∃ m_11, ck m_11 dz gc gd 0 w36) ∧
 ∀ m_9, ∀ (eb : Ptr) (gh gi : Nat), ∀ cl : Int, ∀ w39, ck m_9 eb gh gi cl w39 →
 (decide (cl < bz) = true →
 ∀ w40, w40 = w39.alloc (.cells ⟨[.int .u8 48]⟩ 5) →
 ∃ (ec : Ptr) (gj gk : Nat), ∃ w41, BuiltinOk prog .append #[23, 23] 23 [false, false] [.slice eb gh gi, .slice (some (⟨w39.heap.size, 0, none⟩)) 1 1] w40 (.slice ec gj gk) w41 ∧
 ∃ cm : Int, IntKind.i64.wrap (cl + 1) = cm ∧
 ∃ m_10, m_10 < m_9 ∧ ck m_10 ec gj gk cm w41) ∧ (decide (cl < bz) = false →
 R (.slice eb gh gi) w39)))) ∧ (decide (0 < aa) = false →
 R (.slice dv fu fv) w30)) → bn dv fu fv w30) →
 (decide (0 < dp) = true →
 ∃ cn : Int, (if dp < nd then dp else nd) = cn ∧
 ((0 : Int) ≤ cn ∧ cn ≤ (s_c : Int)) ∧
 ∃ co : Nat → Ptr → Nat → Nat → Int → World → Prop, (∃ m_14, co m_14 du fs ft 0 w29) ∧
 ∀ m_12, ∀ (ed : Ptr) (gl gm : Nat), ∀ cp : Int, ∀ w42, co m_12 ed gl gm cp w42 →
 (decide (cp < (cn.toNat : Int)) = true →
 ((0 : Int) ≤ cp ∧ cp < (cn.toNat : Int)) ∧ ∃ cq : Addr, s = some cq ∧
 ∃ cr : Int, w42.cell? (cq.add (cp.toNat * 1)) = some (.int .u8 cr) ∧
 ∀ w43, w43 = w42.alloc (.cells ⟨[.int .u8 cr]⟩ 5) →
 ∃ (ee : Ptr) (gn gp : Nat), ∃ w44, BuiltinOk prog .append #[23, 23] 23 [false, false] [.slice ed gl gm, .slice (some (⟨w42.heap.size, 0, none⟩)) 1 1] w43 (.slice ee gn gp) w44 ∧
 ∃ cs : Int, IntKind.i64.wrap (cp + 1) = cs ∧
 ∃ m_13, m_13 < m_12 ∧ co m_13 ee gn gp cs w44) ∧ (decide (cp < (cn.toNat : Int)) = false →
 ∃ ct : Int, IntKind.i64.wrap (dp - cn) = ct ∧
 ∃ cu : Nat → Ptr → Nat → Nat → Int → World → Prop, (∃ m_17, cu m_17 ed gl gm 0 w42) ∧
 ∀ m_15, ∀ (ef : Ptr) (gq gr : Nat), ∀ cv : Int, ∀ w45, cu m_15 ef gq gr cv w45 →
 (decide (cv < ct) = true →
 ∀ w46, w46 = w45.alloc (.cells ⟨[.int .u8 48]⟩ 5) →
 ∃ (eg : Ptr) (gs gu : Nat), ∃ w47, BuiltinOk prog .append #[23, 23] 23 [false, false] [.slice ef gq gr, .slice (some (⟨w45.heap.size, 0, none⟩)) 1 1] w46 (.slice eg gs gu) w47 ∧
 ∃ cw : Int, IntKind.i64.wrap (cv + 1) = cw ∧
 ∃ m_16, m_16 < m_15 ∧ cu m_16 eg gs gu cw w47) ∧ (decide (cv < ct) = false →
 bn ef gq gr w45))) ∧ (decide (0 < dp) = false →
 ∀ w48, w48 = w29.alloc (.cells ⟨[.int .u8 48]⟩ 5) →
 ∃ (eh : Ptr) (gv gw : Nat), ∃ w49, BuiltinOk prog .append #[23, 23] 23 [false, false] [.slice du fs ft, .slice (some (⟨w29.heap.size, 0, none⟩)) 1 1] w48 (.slice eh gv gw) w49 ∧
 bn eh gv gw w49)) → bm du fs ft w29) →
 (neg = true →
 ∀ w50, w50 = w2.alloc (.cells ⟨[.int .u8 45]⟩ 5) →
 ∃ (ei : Ptr) (gx gy : Nat), ∃ w51, BuiltinOk prog .append #[23, 23] 23 [false, false] [.slice dst ek el, .slice (some (⟨w2.heap.size, 0, none⟩)) 1 1] w50 (.slice ei gx gy) w51 ∧
 bm ei gx gy w51) ∧ (neg = false →
 bm dst ek el w2)) ∧ (decide (ab = 102) = false →
 ∀ w52, w52 = w2.alloc (.cells ⟨[.int .u8 37, .int .u8 ab]⟩ 5) →
 ∃ (ej : Ptr) (gz ha : Nat), ∃ w53, BuiltinOk prog .append #[23, 23] 23 [false, false] [.slice dst ek el, .slice (some (⟨w2.heap.size, 0, none⟩)) 2 2] w52 (.slice ej gz ha) w53 ∧
 R (.slice ej gz ha) w53))) → ac x75 w2) →
 (decide (ab = 101) = true →
 ac (decide (ab = 101)) w1) ∧ (decide (ab = 101) = false →
 ac (decide (ab = 69)) w1)) → Kx aa ab w1) →
 ∀ cx : Bool → World → Prop, (∀ x36 : Bool, ∀ w54,
 ((x36 = true →
 ∀ cy : Int → World → Prop, (∀ cz : Int, ∀ w55,
 (∀ da : Int → World → Prop, (∀ db : Int, ∀ w56,
 (∃ x49 : Int, IntKind.i64.wrap (dp - 1) = x49 ∧
 ∀ dc : Bool → World → Prop, (∀ x56 : Bool, ∀ w57,
 ((x56 = true →
 ∀ dd : Int → World → Prop, (∀ de : Int, ∀ w58,
 (∃ x62 : Int, IntKind.i64.wrap (de - 1) = x62 ∧
 ∃ x64 : Int, IntKind.u8.wrap (fmt + 101) = x64 ∧
 ∃ x65 : Int, IntKind.u8.wrap (x64 - 103) = x65 ∧
 Kx x62 x65 w58) → dd de w58) →
 (decide (nd < em) = true →
 dd nd w57) ∧ (decide (nd < em) = false →
 dd em w57)) ∧ (x56 = false →
 (decide (dp < em) = true →
 ∃ x72 : Int, IntKind.i64.wrap (nd - dp) = x72 ∧
 ∃ x73 : Int, (if (0 : Int) > x72 then 0 else x72) = x73 ∧
 Kx x73 102 w57) ∧ (decide (dp < em) = false →
 ∃ df : Int, IntKind.i64.wrap (em - dp) = df ∧
 ∃ dg : Int, (if (0 : Int) > df then 0 else df) = dg ∧
 Kx dg 102 w57))) → dc x56 w57) →
 (decide (x49 < (-4)) = true →
 dc true w56) ∧ (decide (x49 < (-4)) = false →
 dc (decide (db ≤ x49)) w56)) → da db w56) →
 (en = true →
 da 6 w55) ∧ (en = false →
 da cz w55)) → cy cz w55) →
 (decide (nd < em) = true →
 (decide (dp ≤ nd) = true →
 cy nd w54) ∧ (decide (dp ≤ nd) = false →
 cy em w54)) ∧ (decide (nd < em) = false →
 cy em w54)) ∧ (x36 = false →
 Kx em fmt w54)) → cx x36 w54) →
 (decide (fmt = 103) = true →
 cx true w) ∧ (decide (fmt = 103) = false →
 cx (decide (fmt = 71)) w)
def an221 : Ann :=
 .k .z
 (.cut [(5, .int .i64), (6, .int .u8)] [0, 1, 2, 3, 4] (.cut [(36, .bool)] [0, 1, 2, 3, 4, 5, 6, 7] (.t [.q, .q, .q, .gs .n 57 58])
 (.cond 41 42 (.k .z
 (.cut [(17, .int .i64)] [0, 1, 2, 3, 4, 5, 6, 7] (.k (.t [.q, .q, .q, .q, .gs .n 53 54])
 (.on 54 (.no .l) (.cond 55 56 .z .l)))
 (.cut [(17, .int .i64)] [0, 1, 2, 3, 4, 5, 6] (.k .z
 (.cond 51 52 .z .l))
 (.k .z
 (.cut [(56, .bool)] [0, 1, 2, 3, 4, 5, 6] (.t [.q, .q, .q, .gs .n 49 50])
 (.cond 43 44 (.cut [(5, .int .i64)] [0, 1, 2, 3, 4, 6] (.k .z
 (.cond 45 46 .z .l))
 (.k .z
 .z)) (.k (.k .z
 (.cond 47 48 .z .l))
 (.k .z
 .z)))))))) .l))
 (.k (.k .z
 (.block (.cut [(75, .bool)] [0, 1, 2, 3, 4, 5, 6, 74] (.k .z
 (.cond 39 40 .l .z))
 (.cond 1 2 (.cut [(0, .slice)] [2, 3, 4, 5, 6] (.k .z
 (.cond 19 20 (.t [.q, .q, .s [.slice]]) .l))
 (.k .z
 (.cut [(19, .int .u8)] [0, 2, 3, 4, 5, 6] (.k .z
 (.cond 17 18 (.t [.q, .s [], .s [.int .u8]]) .l))
 (.k (.t [.q, .q, .q, .s [.slice]])
 (.cut [(0, .slice)] [3, 4, 6] (.k .z
 (.cond 11 12 (.k (.t [.q, .q, .s [.slice]])
 (.k .z
 (.k .z
 (.cut [(0, .slice), (20, .int .i64)] [3, 4, 5, 6] (.k .z
 (.cond 15 16 (.k (.t [.q, .q, .q, .q, .q, .s [.slice]])
 .z) .l))
 (.k .z
 (.block (.loop [(0, .slice), (114, .int .i64)] [3, 4, 6, 113] (.k .z
 (.k (.cond 13 14 .l .l)
 (.k (.block (.t [.q, .q, .s [.slice]]))
 .z)))))))))) .l))
 (.k (.t [.q, .q, .q, .s [.slice]])
 (.k .z
 (.cut [(22, .int .i64)] [0] (.k .z
 (.cond 9 10 .z .l))
 (.cut [(19, .int .u8), (22, .int .i64)] [0] (.k .z
 (.cond 7 8 (.k .z
 .z) .z))
 (.k (.t [.q, .q, .q, .s [.slice]])
 (.k (.block (.k .z
 (.cond 3 4 (.t [.q, .q, .q, .q, .q, .s [.slice]]) (.k .z
 (.cond 5 6 (.t [.q, .q, .q, .q, .q, .q, .q, .q, .q, .q, .s [.slice]]) (.t [.q, .q, .q, .q, .q, .q, .q, .q, .q, .q, .q, .q, .q, .q, .q, .s [.slice]]))))))
 .zl))))))))))) (.k .z
 (.cond 21 22 (.cut [(0, .slice)] [2, 3, 4, 5] (.k .z
 (.cond 37 38 (.t [.q, .q, .s [.slice]]) .l))
 (.cut [(0, .slice)] [2, 3, 4, 5] (.k .z
 (.cond 31 32 (.k .z
 (.k (.k .z
 (.block (.loop [(0, .slice), (191, .int .i64)] [2, 3, 4, 5, 23, 189, 190] (.k .z
 (.k (.cond 33 34 .l .l)
 (.k (.block (.k (.t [.s [], .s [.int .u8]])
 (.t [.q, .q, .q, .s [.slice]])))
 .z))))))
 (.k .z
 (.block (.loop [(0, .slice), (203, .int .i64)] [2, 3, 4, 5, 202] (.k .z
 (.k (.cond 35 36 .l .l)
 (.k (.block (.t [.q, .q, .s [.slice]]))
 .z)))))))) (.t [.q, .q, .s [.slice]])))
 (.k (.k .z
 (.cond 23 24 (.k (.t [.q, .q, .s [.slice]])
 (.k .z
 (.k .z
 (.k .z
 (.k .z
 (.k (.k .z
 (.block (.loop [(0, .slice), (240, .int .i64)] [2, 27, 28, 29, 239] (.k .z
 (.k (.cond 25 26 .l .l)
 (.k (.block (.t [.q, .q, .s [.slice]]))
 .z))))))
 (.k (.k .z
 (.block (.loop [(0, .slice), (247, .int .i64)] [2, 27, 29, 246] (.k .z
 (.k (.cond 27 28 .l .l)
 (.k (.block (.k .z
 (.t [.q, .q, .q, .q, .q, .s [], .s [.int .u8], .q, .s [.slice]])))
 .z))))))
 (.k .z
 (.block (.loop [(0, .slice), (261, .int .i64)] [260] (.k .z
 (.k (.cond 29 30 .l .l)
 (.k (.block (.t [.q, .q, .s [.slice]]))
 .z))))))))))))) .l))
 .zl))) .l))))))
 (.k (.t [.q, .q, .q, .s [.slice]])
 .l)))
theorem c221 (dst : Ptr) (aa ab : Nat) (neg : Bool) (s : Ptr) (s_n s_c : Nat) (dp : Int) (nd : Int) (ac : Int) (fmt : Int) (ad : Bool) (w : World) (R : RR) (hvc : VC221 dst aa ab neg s s_n s_c dp nd ac fmt ad w R) : CR 221 [.slice dst aa ab, .bool neg, .slice s s_n s_c, .int .i64 dp, .int .i64 nd, .int .i64 ac, .int .u8 fmt, .bool ad] w R :=
 vcc (fn := f221) (ann := an221) hvc (by kernel_rfl) (by kernel_rfl)
end Go.Proofs.Tryz
set_option linter.unusedVariables false
namespace Go.Proofs.Tryz
open Go.Vc Go.RowKit Go.Sort
theorem u64_range (n : Int) : inU64 (IntKind.u64.wrap n) := by
  have e : IntKind.u64.wrap n = n % 18446744073709551616 := rfl
  rw [e]
  unfold inU64
  omega
theorem ret261 (u e : Int) (w : World) : Ret 261 [.int .u64 u, .int .i64 e] w (.int .u64 (IntKind.u64.wrap (u + IntKind.u64.wrap e))) :=
  Ret.of (c261 u e w _ ⟨_, rfl, _, rfl, rfl, Keeps.refl _⟩)
theorem ret262 (u : Int) (w : World) : Ret 262 [.int .u64 u] w (.int .u64 (Int.fdiv (IntKind.u64.wrap (u + 3)) (2 ^ 2))) :=
  Ret.of (c262 u w _ ⟨_, rfl, by decide, _, rfl, rfl, Keeps.refl _⟩)
theorem ret263 (u : Int) (w : World) : Ret 263 [.int .u64 u] w (.int .u64 (Int.fdiv (IntKind.u64.wrap (u + 0)) (2 ^ 2))) :=
  Ret.of (c263 u w _ ⟨_, rfl, by decide, _, rfl, rfl, Keeps.refl _⟩)
def roundF (u : Int) : Int := Int.fdiv (IntKind.u64.wrap (IntKind.u64.wrap (u + 1) + bits .and .u64 (Int.fdiv u (2 ^ 2)) 1)) (2 ^ 2)
theorem ret264 (u : Int) (w : World) : Ret 264 [.int .u64 u] w (.int .u64 (roundF u)) :=
  Ret.of (c264 u w _ ⟨_, rfl, by decide, _, rfl, _, rfl, _, rfl, by decide, _, rfl, rfl, Keeps.refl _⟩)
theorem div4_range {n : Int} (h : inU64 n) : inU64 (Int.fdiv n (2 ^ 2)) := by
  unfold inU64 at *
  rw [Int.fdiv_eq_ediv_of_nonneg _ (by decide)]
  omega
def skewF (x : Int) : Int := Int.fdiv (IntKind.i64.wrap (IntKind.i64.wrap (x * 631305) - 261663)) (2 ^ 21)
theorem ret257 (x : Int) (w : World) : Ret 257 [.int .i64 x] w (.int .i64 (skewF x)) :=
  Ret.of (c257 x w _ ⟨_, rfl, _, rfl, by decide, _, rfl, rfl, Keeps.refl _⟩)
theorem ret259 (x : Int) (w : World) : Ret 259 [.int .i64 x] w (.int .i64 (Int.fdiv (IntKind.i64.wrap (x * 108853)) (2 ^ 15))) :=
  Ret.of (c259 x w _ ⟨_, rfl, by decide, _, rfl, rfl, Keeps.refl _⟩)
theorem ret282 (b : Bool) (w : World) : Ret 282 [.bool b] w (.int .u64 (if b then 1 else 0)) := by
  refine Ret.of (c282 b w _ ?_)
  unfold VC282
  exact ⟨fun h => by rw [h]; exact ⟨rfl, Keeps.refl _⟩, fun h => by rw [h]; exact ⟨rfl, Keeps.refl _⟩⟩
theorem ret281 (x y : Int) (hx : inU64 x) (hy : inU64 y) (w : World) : Ret 281 [.int .u64 x, .int .u64 y] w (.tuple ⟨[.int .u64 ((x.toNat * y.toNat / 18446744073709551616 : Nat) : Int), .int .u64 ((x.toNat * y.toNat % 18446744073709551616 : Nat) : Int)]⟩) := by
  unfold inU64 at hx hy
  obtain ⟨a, ha⟩ : ∃ a : Nat, x = a := ⟨x.toNat, by omega⟩
  obtain ⟨b, hb⟩ : ∃ b : Nat, y = b := ⟨y.toNat, by omega⟩
  subst ha hb
  exact (bits_Mul64 a b (by omega) (by omega) w).mono fun e w' ⟨he, hw⟩ => ⟨he, by rw [hw]; exact Keeps.refl _⟩
theorem ten_range (i : Nat) : inU64 (tenHi i) ∧ inU64 (tenLo i) := by
  have h : (Go.Pinned.pow10Rows.all fun x => decide (x.1 < 18446744073709551616) && decide (x.2 < 18446744073709551616)) = true := by decide +kernel
  unfold tenHi tenLo inU64
  cases hg : Go.Pinned.pow10Rows[i]? with
  | none => simp
  | some x =>
    have := List.all_eq_true.1 h x (List.mem_of_getElem? hg)
    simp only [Bool.and_eq_true, decide_eq_true_eq] at this
    simp only [Option.getD_some]
    omega
theorem ret258 (g : Nat) (cs : List Value) (hcs : cs.length = 3) (ex p lp : Int) (w : World) (ht : Tabs w) (hv : Var w g 331 cs) (h0 : -348 ≤ p) (h1 : p < 348) (hg : g ≠ 15) :
    Calls prog 258 ⟨[.pointer (some ⟨g, 0, none⟩), .int .i64 ex, .int .i64 p, .int .i64 lp]⟩ w fun e w' => e = .returned (.tuple ⟨[]⟩) ∧ w.grownBy w' (some g) ∧
      Var w' g 331 [.int .u64 (tenHi (p + 348).toNat), .int .u64 (tenLo (p + 348).toNat), .int .i64 (IntKind.i64.wrap (0 - IntKind.i64.wrap (IntKind.i64.wrap (ex + lp) + 3)))] := by
  rcases cs with _ | ⟨a, _ | ⟨b, _ | ⟨c, _ | ⟨d, r⟩⟩⟩⟩ <;> simp at hcs
  have hi : (p + 348).toNat < 696 := by omega
  obtain ⟨t1, t2⟩ := ht.ten (p + 348).toNat hi
  have e : IntKind.i64.wrap (p - (-348)) = ((p + 348).toNat : Int) := by
    rw [i64w (by omega) (by omega)]; omega
  have := c258 ⟨g, 0, none⟩ ex p lp w (fun v w' => v = .tuple ⟨[]⟩ ∧ w.grownBy w' (some g) ∧
      Var w' g 331 [.int .u64 (tenHi (p + 348).toNat), .int .u64 (tenLo (p + 348).toNat), .int .i64 (IntKind.i64.wrap (0 - IntKind.i64.wrap (IntKind.i64.wrap (ex + lp) + 3)))]) ?_
  · exact this.mono fun e w' ⟨v, he, hv, h⟩ => ⟨by rw [he, hv], h⟩
  unfold VC258
  have a1 : ∀ j, (⟨g, 0, none⟩ : Addr).add j = ⟨g, j, none⟩ := fun j => by rw [add_at, Nat.zero_add]
  have b1 : ∀ j, (⟨15, 0, none⟩ : Addr).add j = ⟨15, j, none⟩ := fun j => by rw [add_at, Nat.zero_add]
  have c1 : ∀ j k, (⟨15, j, none⟩ : Addr).add k = ⟨15, j + k, none⟩ := fun j k => add_at _ _ _
  refine ⟨_, e, ⟨by omega, by omega⟩, tenHi (p + 348).toNat, by rw [b1, Int.toNat_natCast, Nat.mul_comm]; exact t1, hv.can (show 0 < 3 by decide) rfl, fun w1 hw1 => ?_⟩
  have hg1 : w.grownBy w1 (some g) := by rw [hw1]; exact setCell_grown w ⟨g, 0, none⟩ _
  have hv1 : Var w1 g 331 [.int .u64 (tenHi (p + 348).toNat), b, c] := by rw [hw1]; exact hv.set 0 _
  refine ⟨_, e, ⟨by omega, by omega⟩, tenLo (p + 348).toNat, ?_, ?_, fun w2 hw2 => ?_⟩
  · rw [b1, c1, Int.toNat_natCast, Nat.mul_comm]
    exact grown_cell hg1 (fun h => hg h.symm) t2
  · rw [a1]; exact hv1.can (show 1 < 3 by decide) rfl
  rw [a1] at hw2
  have hg2 : w.grownBy w2 (some g) := grown_trans hg1 (by rw [hw2]; exact setCell_grown w1 ⟨g, 1, none⟩ _)
  have hv2 : Var w2 g 331 [.int .u64 (tenHi (p + 348).toNat), .int .u64 (tenLo (p + 348).toNat), c] := by rw [hw2]; exact hv1.set 1 _
  refine ⟨_, rfl, _, rfl, _, rfl, ?_, fun w3 hw3 => ?_⟩
  · rw [a1]; exact hv2.can (show 2 < 3 by decide) rfl
  rw [a1] at hw3
  exact ⟨rfl, grown_trans hg2 (by rw [hw3]; exact setCell_grown w2 ⟨g, 2, none⟩ _), by rw [hw3]; exact hv2.set 2 _⟩
theorem i64_and63 (n : Int) : bits .and .i64 n 63 = n % 64 := by
  have h63 : (BitVec.ofInt 64 63).toNat = 2 ^ 6 - 1 := by decide
  have key : (BitVec.ofInt 64 n &&& BitVec.ofInt 64 63).toNat = (n % ((2 ^ 64 : Nat) : Int)).toNat % 2 ^ 6 := by
    rw [BitVec.toNat_and, BitVec.toNat_ofInt, h63, Nat.and_two_pow_sub_one_eq_mod]
  show IntKind.i64.wrap ((BitVec.ofInt 64 n &&& BitVec.ofInt 64 63).toNat : Nat) = n % 64
  rw [key, IntKind.wrap_i64]
  omega
def usF (A Bv C D s : Int) : Int :=
  if (!decide (IntKind.u64.wrap (Int.fdiv A (2 ^ (min (bits .and .i64 s 63).toNat 64)) * 2 ^ (min (bits .and .i64 s 63).toNat 64)) = A)) = true then bits .or .u64 (Int.fdiv A (2 ^ (min (bits .and .i64 s 63).toNat 64))) 1
  else bits .or .u64 (Int.fdiv (IntKind.u64.wrap (A - (if decide (Bv < C) then 1 else 0))) (2 ^ (min (bits .and .i64 s 63).toNat 64))) (if decide (1 < IntKind.u64.wrap (Bv - C)) then 1 else 0)
theorem ex260 (x hi lo s : Int) (hx : inU64 x) (hh : inU64 hi) (hl : inU64 lo) : ∃ v : Int, ∀ w g, Var w g 331 [.int .u64 hi, .int .u64 lo, .int .i64 s] → Ret 260 [.int .u64 x, .pointer (some ⟨g, 0, none⟩)] w (.int .u64 v) := by
  have hs : (0 : Int) ≤ bits .and .i64 s 63 := by rw [i64_and63]; omega
  have a1 : ∀ g j, (⟨g, 0, none⟩ : Addr).add j = ⟨g, j, none⟩ := fun g j => by rw [add_at, Nat.zero_add]
  generalize ha : ((x.toNat * hi.toNat / 18446744073709551616 : Nat) : Int) = A
  generalize hb : ((x.toNat * hi.toNat % 18446744073709551616 : Nat) : Int) = Bv
  generalize hc : ((x.toNat * lo.toNat / 18446744073709551616 : Nat) : Int) = C
  generalize hd : ((x.toNat * lo.toNat % 18446744073709551616 : Nat) : Int) = D
  have m1 : ∀ w, Ret 281 [.int .u64 x, .int .u64 hi] w (.tuple ⟨[.int .u64 A, .int .u64 Bv]⟩) := fun w => by rw [← ha, ← hb]; exact ret281 x hi hx hh w
  have m2 : ∀ w, Ret 281 [.int .u64 x, .int .u64 lo] w (.tuple ⟨[.int .u64 C, .int .u64 D]⟩) := fun w => by rw [← hc, ← hd]; exact ret281 x lo hx hl w
  refine ⟨usF A Bv C D s, fun w g hv => Ret.of (c260 x ⟨g, 0, none⟩ w _ ?_)⟩
  unfold VC260 usF
  refine ⟨hi, hv.lies.at 0 rfl rfl, (m1 w).go fun w1 hk1 => ⟨_, _, rfl, s, by rw [a1]; exact (hv.keeps hk1).lies.at 2 rfl rfl, _, rfl, hs, _, rfl, hs, _, rfl, fun h => ⟨hs, _, rfl, _, rfl, by rw [if_pos h], hk1⟩,
    fun h => ⟨lo, by rw [a1]; exact (hv.keeps hk1).lies.at 1 rfl rfl, ?_⟩⟩⟩
  rw [h]
  exact (m2 w1).go fun w2 hk2 => ⟨_, _, rfl, (ret282 _ w2).go fun w3 hk3 => ⟨_, rfl, _, rfl, [], trivial, hs, _, rfl, _, rfl, (ret282 _ w3.drew).go fun w4 hk4 => ⟨_, rfl, _, rfl, rfl, ((hk1.trans hk2).trans hk3).drew.trans hk4⟩⟩⟩
end Go.Proofs.Tryz
