/- A part of a proof. -/
import Derived.Test.YtfofafjemgfobaaGreatDoorX4
set_option linter.unusedVariables false
set_option maxRecDepth 100000
namespace Go.Proofs.Tryz
open Go.Vc
def VC52 (eo : Int) (ep : Ptr) (er es : Nat) (nx : Int) (w : World) (R : RR) : Prop :=
 ∀ w1, w1 = w.alloc (.cells ⟨[.int .u8 eo, .slice ep er es]⟩ 92) →
 ∀ Kx : Bs → World → Prop, (∀ str : Bs, ∀ w2,
 ((decide (0 ≤ nx) = true →
 (decide (nx < (str.length : Int)) = true →
 Calls prog 108 ⟨[.string (mkS str), .int .i64 nx]⟩ w2 fun e w3 => ∃ aa : Bs, e = .returned (.string (mkS aa)) ∧
 R (.tuple ⟨[.string (mkS aa), .bool true]⟩) w3) ∧ (decide (nx < (str.length : Int)) = false →
 R (.tuple ⟨[.string (mkS str), .bool false]⟩) w2)) ∧ (decide (0 ≤ nx) = false →
 R (.tuple ⟨[.string (mkS str), .bool false]⟩) w2)) → Kx str w2) →
 ∃ x48 : Int, w1.cell? ⟨w.heap.size, 0, none⟩ = some (.int .u8 x48) ∧
 (decide (x48 = 2) = true →
 ∃ x52 : Int, ∃ (dv : Ptr) (et eu : Nat), LoadsRow prog 92 w1 ⟨w.heap.size, 0, none⟩ [.int .u8 x52, .slice dv et eu] ∧
 Calls prog 81 ⟨[.agg ⟨[.int .u8 x52, .slice dv et eu]⟩]⟩ w1 fun e w4 => ∃ x53 : Bs, ∃ ab : Bool, e = .returned (.tuple ⟨[.string (mkS x53), .bool ab]⟩) ∧
 ((!ab) = true →
 R (.tuple ⟨[.string (mkS []), .bool false]⟩) w4) ∧ ((!ab) = false →
 Calls prog 82 ⟨[.string (mkS x53)]⟩ w4 fun e w5 => ∃ x59 : Bs, e = .returned (.string (mkS x59)) ∧
 Kx x59 w5)) ∧ (decide (x48 = 2) = false →
 (decide (x48 = 3) = true →
 ∃ x63 : Int, ∃ (dw : Ptr) (ev ew : Nat), LoadsRow prog 92 w1 ⟨w.heap.size, 0, none⟩ [.int .u8 x63, .slice dw ev ew] ∧
 Calls prog 83 ⟨[.agg ⟨[.int .u8 x63, .slice dw ev ew]⟩]⟩ w1 fun e w6 => ∃ (x64 : Ptr) (ex ey : Nat), ∃ ac : Bool, e = .returned (.tuple ⟨[.slice x64 ex ey, .bool ac]⟩) ∧
 ((!ac) = true →
 R (.tuple ⟨[.string (mkS []), .bool false]⟩) w6) ∧ ((!ac) = false →
 Calls prog 45 ⟨[.slice x64 ex ey, .int .i64 nx]⟩ w6 fun e w7 => ∃ x71 : Bs, ∃ ad : Bool, e = .returned (.tuple ⟨[.string (mkS x71), .bool ad]⟩) ∧
 R (.tuple ⟨[.string (mkS x71), .bool ad]⟩) w7)) ∧ (decide (x48 = 3) = false →
 (decide (x48 = 4) = true →
 ∃ x77 : Int, ∃ (dx : Ptr) (ez fa : Nat), LoadsRow prog 92 w1 ⟨w.heap.size, 0, none⟩ [.int .u8 x77, .slice dx ez fa] ∧
 Calls prog 84 ⟨[.agg ⟨[.int .u8 x77, .slice dx ez fa]⟩]⟩ w1 fun e w8 => ∃ (x78 : Ptr) (fb fc : Nat), ∃ ae : Bool, e = .returned (.tuple ⟨[.slice x78 fb fc, .bool ae]⟩) ∧
 ((!ae) = true →
 R (.tuple ⟨[.string (mkS []), .bool false]⟩) w8) ∧ ((!ae) = false →
 Calls prog 85 ⟨[.slice x78 fb fc, .int .i64 nx]⟩ w8 fun e w9 => ∃ x85 : Bs, ∃ af : Bool, e = .returned (.tuple ⟨[.string (mkS x85), .bool af]⟩) ∧
 R (.tuple ⟨[.string (mkS x85), .bool af]⟩) w9)) ∧ (decide (x48 = 4) = false →
 (decide (x48 = 1) = true →
 ∃ x91 : Int, ∃ (dy : Ptr) (fd fe : Nat), LoadsRow prog 92 w1 ⟨w.heap.size, 0, none⟩ [.int .u8 x91, .slice dy fd fe] ∧
 Calls prog 86 ⟨[.agg ⟨[.int .u8 x91, .slice dy fd fe]⟩]⟩ w1 fun e w10 => ∃ x92 : Nat, ∃ ag : Bool, e = .returned (.tuple ⟨[.float .f64 x92, .bool ag]⟩) ∧
 ((!ag) = true →
 R (.tuple ⟨[.string (mkS []), .bool false]⟩) w10) ∧ ((!ag) = false →
 Calls prog 87 ⟨[.float .f64 x92]⟩ w10 fun e w11 => ∃ x98 : Bs, e = .returned (.string (mkS x98)) ∧
 [123, 34, 36, 110, 117, 109, 98, 101, 114, 68, 111, 117, 98, 108, 101, 34, 58, 34].length + x98.length ≤ 9223372036854775807 ∧
 ([123, 34, 36, 110, 117, 109, 98, 101, 114, 68, 111, 117, 98, 108, 101, 34, 58, 34] ++ x98).length + [34, 125].length ≤ 9223372036854775807 ∧
 Kx (([123, 34, 36, 110, 117, 109, 98, 101, 114, 68, 111, 117, 98, 108, 101, 34, 58, 34] ++ x98) ++ [34, 125]) w11)) ∧ (decide (x48 = 1) = false →
 (decide (x48 = 5) = true →
 ∃ ah : Int, ∃ (dz : Ptr) (ff fg : Nat), LoadsRow prog 92 w1 ⟨w.heap.size, 0, none⟩ [.int .u8 ah, .slice dz ff fg] ∧
 Calls prog 88 ⟨[.agg ⟨[.int .u8 ah, .slice dz ff fg]⟩]⟩ w1 fun e w12 => ∃ ai : Int, ∃ (ea : Ptr) (fh fi : Nat), ∃ aj : Bool, e = .returned (.tuple ⟨[.int .u8 ai, .slice ea fh fi, .bool aj]⟩) ∧
 ((!aj) = true →
 R (.tuple ⟨[.string (mkS []), .bool false]⟩) w12) ∧ ((!aj) = false →
 Calls prog 89 ⟨[.slice ea fh fi]⟩ w12 fun e w13 => ∃ ak : Bs, e = .returned (.string (mkS ak)) ∧
 [123, 34, 36, 98, 105, 110, 97, 114, 121, 34, 58, 123, 34, 98, 97, 115, 101, 54, 52, 34, 58, 34].length + ak.length ≤ 9223372036854775807 ∧
 ([123, 34, 36, 98, 105, 110, 97, 114, 121, 34, 58, 123, 34, 98, 97, 115, 101, 54, 52, 34, 58, 34] ++ ak).length + [34, 44, 34, 115, 117, 98, 84, 121, 112, 101, 34, 58, 34].length ≤ 9223372036854775807 ∧
 Calls prog 90 ⟨[.int .u8 ai]⟩ w13 fun e w14 => ∃ al : Bs, e = .returned (.string (mkS al)) ∧
 (([123, 34, 36, 98, 105, 110, 97, 114, 121, 34, 58, 123, 34, 98, 97, 115, 101, 54, 52, 34, 58, 34] ++ ak) ++ [34, 44, 34, 115, 117, 98, 84, 121, 112, 101, 34, 58, 34]).length + al.length ≤ 9223372036854775807 ∧
 ((([123, 34, 36, 98, 105, 110, 97, 114, 121, 34, 58, 123, 34, 98, 97, 115, 101, 54, 52, 34, 58, 34] ++ ak) ++ [34, 44, 34, 115, 117, 98, 84, 121, 112, 101, 34, 58, 34]) ++ al).length + [34, 125, 125].length ≤ 9223372036854775807 ∧
 Kx (((([123, 34, 36, 98, 105, 110, 97, 114, 121, 34, 58, 123, 34, 98, 97, 115, 101, 54, 52, 34, 58, 34] ++ ak) ++ [34, 44, 34, 115, 117, 98, 84, 121, 112, 101, 34, 58, 34]) ++ al) ++ [34, 125, 125]) w14)) ∧ (decide (x48 = 5) = false →
 (decide (x48 = 6) = true →
 Kx [123, 34, 36, 117, 110, 100, 101, 102, 105, 110, 101, 100, 34, 58, 116, 114, 117, 101, 125] w1) ∧ (decide (x48 = 6) = false →
 (decide (x48 = 7) = true →
 ∃ am : Int, ∃ (eb : Ptr) (fj fk : Nat), LoadsRow prog 92 w1 ⟨w.heap.size, 0, none⟩ [.int .u8 am, .slice eb fj fk] ∧
 Calls prog 91 ⟨[.agg ⟨[.int .u8 am, .slice eb fj fk]⟩]⟩ w1 fun e w15 => ∃ ao : List Value, ∃ ap : Bool, e = .returned (.tuple ⟨[.agg ⟨ao⟩, .bool ap]⟩) ∧
 ∀ w16, w16 = w15.alloc (.cells ⟨[.int .u8 0, .int .u8 0, .int .u8 0, .int .u8 0, .int .u8 0, .int .u8 0, .int .u8 0, .int .u8 0, .int .u8 0, .int .u8 0, .int .u8 0, .int .u8 0]⟩ 147) →
 ∃ w17, (Instr.storeAt 147 (.pointer (some ⟨w15.heap.size, 0, none⟩)) (.agg ⟨ao⟩)).run prog w16 = .ok () w17 ∧
 ((!ap) = true →
 R (.tuple ⟨[.string (mkS []), .bool false]⟩) w17) ∧ ((!ap) = false →
 ∃ aq ar : Int, ∃ au av : Int, ∃ aw ax : Int, ∃ ay az : Int, ∃ ba bb : Int, ∃ bc bd : Int, LoadsRow prog 147 w17 ⟨w15.heap.size, 0, none⟩ [.int .u8 aq, .int .u8 ar, .int .u8 au, .int .u8 av, .int .u8 aw, .int .u8 ax, .int .u8 ay, .int .u8 az, .int .u8 ba, .int .u8 bb, .int .u8 bc, .int .u8 bd] ∧
 Calls prog 92 ⟨[.agg ⟨[.int .u8 aq, .int .u8 ar, .int .u8 au, .int .u8 av, .int .u8 aw, .int .u8 ax, .int .u8 ay, .int .u8 az, .int .u8 ba, .int .u8 bb, .int .u8 bc, .int .u8 bd]⟩]⟩ w17 fun e w18 => ∃ be : Bs, e = .returned (.string (mkS be)) ∧
 [123, 34, 36, 111, 105, 100, 34, 58, 34].length + be.length ≤ 9223372036854775807 ∧
 ([123, 34, 36, 111, 105, 100, 34, 58, 34] ++ be).length + [34, 125].length ≤ 9223372036854775807 ∧
 Kx (([123, 34, 36, 111, 105, 100, 34, 58, 34] ++ be) ++ [34, 125]) w18)) ∧ (decide (x48 = 7) = false →
 (decide (x48 = 8) = true →
 ∃ bf : Int, ∃ (ec : Ptr) (fl fm : Nat), LoadsRow prog 92 w1 ⟨w.heap.size, 0, none⟩ [.int .u8 bf, .slice ec fl fm] ∧
 Calls prog 93 ⟨[.agg ⟨[.int .u8 bf, .slice ec fl fm]⟩]⟩ w1 fun e w19 => ∃ bg bh : Bool, e = .returned (.tuple ⟨[.bool bg, .bool bh]⟩) ∧
 ((!bh) = true →
 R (.tuple ⟨[.string (mkS []), .bool false]⟩) w19) ∧ ((!bh) = false →
 Calls prog 94 ⟨[.bool bg]⟩ w19 fun e w20 => ∃ bi : Bs, e = .returned (.string (mkS bi)) ∧
 Kx bi w20)) ∧ (decide (x48 = 8) = false →
 (decide (x48 = 9) = true →
 ∃ bj : Int, ∃ (ed : Ptr) (fo fp : Nat), LoadsRow prog 92 w1 ⟨w.heap.size, 0, none⟩ [.int .u8 bj, .slice ed fo fp] ∧
 Calls prog 95 ⟨[.agg ⟨[.int .u8 bj, .slice ed fo fp]⟩]⟩ w1 fun e w21 => ∃ bk : Int, ∃ bl : Bool, e = .returned (.tuple ⟨[.int .i64 bk, .bool bl]⟩) ∧
 ((!bl) = true →
 R (.tuple ⟨[.string (mkS []), .bool false]⟩) w21) ∧ ((!bl) = false →
 Calls prog 34 ⟨[.int .i64 bk, .int .i64 10]⟩ w21 fun e w22 => ∃ bm : Bs, e = .returned (.string (mkS bm)) ∧
 [123, 34, 36, 100, 97, 116, 101, 34, 58, 123, 34, 36, 110, 117, 109, 98, 101, 114, 76, 111, 110, 103, 34, 58, 34].length + bm.length ≤ 9223372036854775807 ∧
 ([123, 34, 36, 100, 97, 116, 101, 34, 58, 123, 34, 36, 110, 117, 109, 98, 101, 114, 76, 111, 110, 103, 34, 58, 34] ++ bm).length + [34, 125, 125].length ≤ 9223372036854775807 ∧
 Kx (([123, 34, 36, 100, 97, 116, 101, 34, 58, 123, 34, 36, 110, 117, 109, 98, 101, 114, 76, 111, 110, 103, 34, 58, 34] ++ bm) ++ [34, 125, 125]) w22)) ∧ (decide (x48 = 9) = false →
 (decide (x48 = 10) = true →
 Kx [110, 117, 108, 108] w1) ∧ (decide (x48 = 10) = false →
 (decide (x48 = 11) = true →
 ∃ bn : Int, ∃ (ee : Ptr) (fq fr : Nat), LoadsRow prog 92 w1 ⟨w.heap.size, 0, none⟩ [.int .u8 bn, .slice ee fq fr] ∧
 Calls prog 96 ⟨[.agg ⟨[.int .u8 bn, .slice ee fq fr]⟩]⟩ w1 fun e w23 => ∃ bo bp : Bs, ∃ bq : Bool, e = .returned (.tuple ⟨[.string (mkS bo), .string (mkS bp), .bool bq]⟩) ∧
 ((!bq) = true →
 R (.tuple ⟨[.string (mkS []), .bool false]⟩) w23) ∧ ((!bq) = false →
 Calls prog 82 ⟨[.string (mkS bo)]⟩ w23 fun e w24 => ∃ br : Bs, e = .returned (.string (mkS br)) ∧
 [123, 34, 36, 114, 101, 103, 117, 108, 97, 114, 69, 120, 112, 114, 101, 115, 115, 105, 111, 110, 34, 58, 123, 34, 112, 97, 116, 116, 101, 114, 110, 34, 58].length + br.length ≤ 9223372036854775807 ∧
 ([123, 34, 36, 114, 101, 103, 117, 108, 97, 114, 69, 120, 112, 114, 101, 115, 115, 105, 111, 110, 34, 58, 123, 34, 112, 97, 116, 116, 101, 114, 110, 34, 58] ++ br).length + [44, 34, 111, 112, 116, 105, 111, 110, 115, 34, 58, 34].length ≤ 9223372036854775807 ∧
 Calls prog 97 ⟨[.string (mkS bp)]⟩ w24 fun e w25 => ∃ bs : Bs, e = .returned (.string (mkS bs)) ∧
 (([123, 34, 36, 114, 101, 103, 117, 108, 97, 114, 69, 120, 112, 114, 101, 115, 115, 105, 111, 110, 34, 58, 123, 34, 112, 97, 116, 116, 101, 114, 110, 34, 58] ++ br) ++ [44, 34, 111, 112, 116, 105, 111, 110, 115, 34, 58, 34]).length + bs.length ≤ 9223372036854775807 ∧
 ((([123, 34, 36, 114, 101, 103, 117, 108, 97, 114, 69, 120, 112, 114, 101, 115, 115, 105, 111, 110, 34, 58, 123, 34, 112, 97, 116, 116, 101, 114, 110, 34, 58] ++ br) ++ [44, 34, 111, 112, 116, 105, 111, 110, 115, 34, 58, 34]) ++ bs).length + [34, 125, 125].length ≤ 9223372036854775807 ∧
 Kx (((([123, 34, 36, 114, 101, 103, 117, 108, 97, 114, 69, 120, 112, 114, 101, 115, 115, 105, 111, 110, 34, 58, 123, 34, 112, 97, 116, 116, 101, 114, 110, 34, 58] ++ br) ++ [44, 34, 111, 112, 116, 105, 111, 110, 115, 34, 58, 34]) ++ bs) ++ [34, 125, 125]) w25)) ∧ (decide (x48 = 11) = false →
 (decide (x48 = 12) = true →
 ∃ bt : Int, ∃ (ef : Ptr) (fs ft : Nat), LoadsRow prog 92 w1 ⟨w.heap.size, 0, none⟩ [.int .u8 bt, .slice ef fs ft] ∧
 Calls prog 98 ⟨[.agg ⟨[.int .u8 bt, .slice ef fs ft]⟩]⟩ w1 fun e w26 => ∃ bu : Bs, ∃ bv : List Value, ∃ bw : Bool, e = .returned (.tuple ⟨[.string (mkS bu), .agg ⟨bv⟩, .bool bw]⟩) ∧
 ∀ w27, w27 = w26.alloc (.cells ⟨[.int .u8 0, .int .u8 0, .int .u8 0, .int .u8 0, .int .u8 0, .int .u8 0, .int .u8 0, .int .u8 0, .int .u8 0, .int .u8 0, .int .u8 0, .int .u8 0]⟩ 147) →
 ∃ w28, (Instr.storeAt 147 (.pointer (some ⟨w26.heap.size, 0, none⟩)) (.agg ⟨bv⟩)).run prog w27 = .ok () w28 ∧
 ((!bw) = true →
 R (.tuple ⟨[.string (mkS []), .bool false]⟩) w28) ∧ ((!bw) = false →
 ∃ f : List (Addr × Value), Kept w28 f ∧
 ∃ bx bz : Int, ∃ ca cb : Int, ∃ cc cd : Int, ∃ ce cf : Int, ∃ cg ch : Int, ∃ ci cj : Int, (cellsOf' prog 147 = some ([.int .u8 bx, .int .u8 bz, .int .u8 ca, .int .u8 cb, .int .u8 cc, .int .u8 cd, .int .u8 ce, .int .u8 cf, .int .u8 cg, .int .u8 ch, .int .u8 ci, .int .u8 cj] : List Value).length ∧ ∀ i v, ([.int .u8 bx, .int .u8 bz, .int .u8 ca, .int .u8 cb, .int .u8 cc, .int .u8 cd, .int .u8 ce, .int .u8 cf, .int .u8 cg, .int .u8 ch, .int .u8 ci, .int .u8 cj] : List Value)[i]? = some v → ((⟨w26.heap.size, 0, none⟩ : Addr).add i, v) ∈ f) ∧
 Calls prog 82 ⟨[.string (mkS bu)]⟩ w28.drew fun e w29 => ∃ ck : Bs, e = .returned (.string (mkS ck)) ∧
 Kept w29 f ∧ [123, 34, 36, 100, 98, 80, 111, 105, 110, 116, 101, 114, 34, 58, 123, 34, 36, 114, 101, 102, 34, 58].length + ck.length ≤ 9223372036854775807 ∧
 ([123, 34, 36, 100, 98, 80, 111, 105, 110, 116, 101, 114, 34, 58, 123, 34, 36, 114, 101, 102, 34, 58] ++ ck).length + [44, 34, 36, 105, 100, 34, 58, 123, 34, 36, 111, 105, 100, 34, 58, 34].length ≤ 9223372036854775807 ∧
 Calls prog 92 ⟨[.agg ⟨[.int .u8 bx, .int .u8 bz, .int .u8 ca, .int .u8 cb, .int .u8 cc, .int .u8 cd, .int .u8 ce, .int .u8 cf, .int .u8 cg, .int .u8 ch, .int .u8 ci, .int .u8 cj]⟩]⟩ w29 fun e w30 => ∃ cl : Bs, e = .returned (.string (mkS cl)) ∧
 (([123, 34, 36, 100, 98, 80, 111, 105, 110, 116, 101, 114, 34, 58, 123, 34, 36, 114, 101, 102, 34, 58] ++ ck) ++ [44, 34, 36, 105, 100, 34, 58, 123, 34, 36, 111, 105, 100, 34, 58, 34]).length + cl.length ≤ 9223372036854775807 ∧
 ((([123, 34, 36, 100, 98, 80, 111, 105, 110, 116, 101, 114, 34, 58, 123, 34, 36, 114, 101, 102, 34, 58] ++ ck) ++ [44, 34, 36, 105, 100, 34, 58, 123, 34, 36, 111, 105, 100, 34, 58, 34]) ++ cl).length + [34, 125, 125, 125].length ≤ 9223372036854775807 ∧
 Kx (((([123, 34, 36, 100, 98, 80, 111, 105, 110, 116, 101, 114, 34, 58, 123, 34, 36, 114, 101, 102, 34, 58] ++ ck) ++ [44, 34, 36, 105, 100, 34, 58, 123, 34, 36, 111, 105, 100, 34, 58, 34]) ++ cl) ++ [34, 125, 125, 125]) w30)) ∧ (decide (x48 = 12) = false →
 (decide (x48 = 13) = true →
 ∃ cm : Int, ∃ (eg : Ptr) (fu fv : Nat), LoadsRow prog 92 w1 ⟨w.heap.size, 0, none⟩ [.int .u8 cm, .slice eg fu fv] ∧
 Calls prog 99 ⟨[.agg ⟨[.int .u8 cm, .slice eg fu fv]⟩]⟩ w1 fun e w31 => ∃ cn : Bs, ∃ co : Bool, e = .returned (.tuple ⟨[.string (mkS cn), .bool co]⟩) ∧
 ((!co) = true →
 R (.tuple ⟨[.string (mkS []), .bool false]⟩) w31) ∧ ((!co) = false →
 Calls prog 82 ⟨[.string (mkS cn)]⟩ w31 fun e w32 => ∃ cp : Bs, e = .returned (.string (mkS cp)) ∧
 [123, 34, 36, 99, 111, 100, 101, 34, 58].length + cp.length ≤ 9223372036854775807 ∧
 ([123, 34, 36, 99, 111, 100, 101, 34, 58] ++ cp).length + [125].length ≤ 9223372036854775807 ∧
 Kx (([123, 34, 36, 99, 111, 100, 101, 34, 58] ++ cp) ++ [125]) w32)) ∧ (decide (x48 = 13) = false →
 (decide (x48 = 14) = true →
 ∃ cq : Int, ∃ (eh : Ptr) (fw fx : Nat), LoadsRow prog 92 w1 ⟨w.heap.size, 0, none⟩ [.int .u8 cq, .slice eh fw fx] ∧
 Calls prog 100 ⟨[.agg ⟨[.int .u8 cq, .slice eh fw fx]⟩]⟩ w1 fun e w33 => ∃ cr : Bs, ∃ cs : Bool, e = .returned (.tuple ⟨[.string (mkS cr), .bool cs]⟩) ∧
 ((!cs) = true →
 R (.tuple ⟨[.string (mkS []), .bool false]⟩) w33) ∧ ((!cs) = false →
 Calls prog 82 ⟨[.string (mkS cr)]⟩ w33 fun e w34 => ∃ ct : Bs, e = .returned (.string (mkS ct)) ∧
 [123, 34, 36, 115, 121, 109, 98, 111, 108, 34, 58].length + ct.length ≤ 9223372036854775807 ∧
 ([123, 34, 36, 115, 121, 109, 98, 111, 108, 34, 58] ++ ct).length + [125].length ≤ 9223372036854775807 ∧
 Kx (([123, 34, 36, 115, 121, 109, 98, 111, 108, 34, 58] ++ ct) ++ [125]) w34)) ∧ (decide (x48 = 14) = false →
 (decide (x48 = 15) = true →
 ∃ cu : Int, ∃ (ei : Ptr) (fy fz : Nat), LoadsRow prog 92 w1 ⟨w.heap.size, 0, none⟩ [.int .u8 cu, .slice ei fy fz] ∧
 Calls prog 101 ⟨[.agg ⟨[.int .u8 cu, .slice ei fy fz]⟩]⟩ w1 fun e w35 => ∃ cv : Bs, ∃ (ej : Ptr) (ga gb : Nat), ∃ cw : Bool, e = .returned (.tuple ⟨[.string (mkS cv), .slice ej ga gb, .bool cw]⟩) ∧
 ((!cw) = true →
 R (.tuple ⟨[.string (mkS []), .bool false]⟩) w35) ∧ ((!cw) = false →
 [123, 34, 36, 99, 111, 100, 101, 34, 58].length + cv.length ≤ 9223372036854775807 ∧
 ([123, 34, 36, 99, 111, 100, 101, 34, 58] ++ cv).length + [44, 34, 36, 115, 99, 111, 112, 101, 34, 58].length ≤ 9223372036854775807 ∧
 Calls prog 102 ⟨[.slice ej ga gb]⟩ w35 fun e w36 => ∃ cx : Bs, e = .returned (.string (mkS cx)) ∧
 (([123, 34, 36, 99, 111, 100, 101, 34, 58] ++ cv) ++ [44, 34, 36, 115, 99, 111, 112, 101, 34, 58]).length + cx.length ≤ 9223372036854775807 ∧
 ((([123, 34, 36, 99, 111, 100, 101, 34, 58] ++ cv) ++ [44, 34, 36, 115, 99, 111, 112, 101, 34, 58]) ++ cx).length + [125].length ≤ 9223372036854775807 ∧
 Kx (((([123, 34, 36, 99, 111, 100, 101, 34, 58] ++ cv) ++ [44, 34, 36, 115, 99, 111, 112, 101, 34, 58]) ++ cx) ++ [125]) w36)) ∧ (decide (x48 = 15) = false →
 (decide (x48 = 16) = true →
 ∃ cy : Int, ∃ (ek : Ptr) (gc gd : Nat), LoadsRow prog 92 w1 ⟨w.heap.size, 0, none⟩ [.int .u8 cy, .slice ek gc gd] ∧
 Calls prog 103 ⟨[.agg ⟨[.int .u8 cy, .slice ek gc gd]⟩]⟩ w1 fun e w37 => ∃ cz : Int, ∃ da : Bool, e = .returned (.tuple ⟨[.int .i32 cz, .bool da]⟩) ∧
 ((!da) = true →
 R (.tuple ⟨[.string (mkS []), .bool false]⟩) w37) ∧ ((!da) = false →
 ∃ db : Int, IntKind.i64.wrap cz = db ∧
 Calls prog 34 ⟨[.int .i64 db, .int .i64 10]⟩ w37 fun e w38 => ∃ dc : Bs, e = .returned (.string (mkS dc)) ∧
 [123, 34, 36, 110, 117, 109, 98, 101, 114, 73, 110, 116, 34, 58, 34].length + dc.length ≤ 9223372036854775807 ∧
 ([123, 34, 36, 110, 117, 109, 98, 101, 114, 73, 110, 116, 34, 58, 34] ++ dc).length + [34, 125].length ≤ 9223372036854775807 ∧
 Kx (([123, 34, 36, 110, 117, 109, 98, 101, 114, 73, 110, 116, 34, 58, 34] ++ dc) ++ [34, 125]) w38)) ∧ (decide (x48 = 16) = false →
 (decide (x48 = 17) = true →
 ∃ dd : Int, ∃ (el : Ptr) (gf gg : Nat), LoadsRow prog 92 w1 ⟨w.heap.size, 0, none⟩ [.int .u8 dd, .slice el gf gg] ∧
 Calls prog 104 ⟨[.agg ⟨[.int .u8 dd, .slice el gf gg]⟩]⟩ w1 fun e w39 => ∃ de df : Int, ∃ dg : Bool, e = .returned (.tuple ⟨[.int .u32 de, .int .u32 df, .bool dg]⟩) ∧
 ((!dg) = true →
 R (.tuple ⟨[.string (mkS []), .bool false]⟩) w39) ∧ ((!dg) = false →
 ∃ dh : Int, IntKind.u64.wrap de = dh ∧
 Calls prog 36 ⟨[.int .u64 dh, .int .i64 10]⟩ w39 fun e w40 => ∃ di : Bs, e = .returned (.string (mkS di)) ∧
 [123, 34, 36, 116, 105, 109, 101, 115, 116, 97, 109, 112, 34, 58, 123, 34, 116, 34, 58].length + di.length ≤ 9223372036854775807 ∧
 ([123, 34, 36, 116, 105, 109, 101, 115, 116, 97, 109, 112, 34, 58, 123, 34, 116, 34, 58] ++ di).length + [44, 34, 105, 34, 58].length ≤ 9223372036854775807 ∧
 ∃ dj : Int, IntKind.u64.wrap df = dj ∧
 Calls prog 36 ⟨[.int .u64 dj, .int .i64 10]⟩ w40 fun e w41 => ∃ dk : Bs, e = .returned (.string (mkS dk)) ∧
 (([123, 34, 36, 116, 105, 109, 101, 115, 116, 97, 109, 112, 34, 58, 123, 34, 116, 34, 58] ++ di) ++ [44, 34, 105, 34, 58]).length + dk.length ≤ 9223372036854775807 ∧
 ((([123, 34, 36, 116, 105, 109, 101, 115, 116, 97, 109, 112, 34, 58, 123, 34, 116, 34, 58] ++ di) ++ [44, 34, 105, 34, 58]) ++ dk).length + [125, 125].length ≤ 9223372036854775807 ∧
 Kx (((([123, 34, 36, 116, 105, 109, 101, 115, 116, 97, 109, 112, 34, 58, 123, 34, 116, 34, 58] ++ di) ++ [44, 34, 105, 34, 58]) ++ dk) ++ [125, 125]) w41)) ∧ (decide (x48 = 17) = false →
 (decide (x48 = 18) = true →
 ∃ dl : Int, ∃ (em : Ptr) (gh gi : Nat), LoadsRow prog 92 w1 ⟨w.heap.size, 0, none⟩ [.int .u8 dl, .slice em gh gi] ∧
 Calls prog 105 ⟨[.agg ⟨[.int .u8 dl, .slice em gh gi]⟩]⟩ w1 fun e w42 => ∃ dm : Int, ∃ dn : Bool, e = .returned (.tuple ⟨[.int .i64 dm, .bool dn]⟩) ∧
 ((!dn) = true →
 R (.tuple ⟨[.string (mkS []), .bool false]⟩) w42) ∧ ((!dn) = false →
 Calls prog 34 ⟨[.int .i64 dm, .int .i64 10]⟩ w42 fun e w43 => ∃ dp : Bs, e = .returned (.string (mkS dp)) ∧
 [123, 34, 36, 110, 117, 109, 98, 101, 114, 76, 111, 110, 103, 34, 58, 34].length + dp.length ≤ 9223372036854775807 ∧
 ([123, 34, 36, 110, 117, 109, 98, 101, 114, 76, 111, 110, 103, 34, 58, 34] ++ dp).length + [34, 125].length ≤ 9223372036854775807 ∧
 Kx (([123, 34, 36, 110, 117, 109, 98, 101, 114, 76, 111, 110, 103, 34, 58, 34] ++ dp) ++ [34, 125]) w43)) ∧ (decide (x48 = 18) = false →
 (decide (x48 = 19) = true →
 ∃ dq : Int, ∃ (en : Ptr) (gj gk : Nat), LoadsRow prog 92 w1 ⟨w.heap.size, 0, none⟩ [.int .u8 dq, .slice en gj gk] ∧
 Calls prog 106 ⟨[.agg ⟨[.int .u8 dq, .slice en gj gk]⟩]⟩ w1 fun e w44 => ∃ dr ds : Int, ∃ dt : Bool, e = .returned (.tuple ⟨[.int .u64 dr, .int .u64 ds, .bool dt]⟩) ∧
 ((!dt) = true →
 R (.tuple ⟨[.string (mkS []), .bool false]⟩) w44) ∧ ((!dt) = false →
 Calls prog 107 ⟨[.int .u64 dr, .int .u64 ds]⟩ w44 fun e w45 => ∃ du : Bs, e = .returned (.string (mkS du)) ∧
 [123, 34, 36, 110, 117, 109, 98, 101, 114, 68, 101, 99, 105, 109, 97, 108, 34, 58, 34].length + du.length ≤ 9223372036854775807 ∧
 ([123, 34, 36, 110, 117, 109, 98, 101, 114, 68, 101, 99, 105, 109, 97, 108, 34, 58, 34] ++ du).length + [34, 125].length ≤ 9223372036854775807 ∧
 Kx (([123, 34, 36, 110, 117, 109, 98, 101, 114, 68, 101, 99, 105, 109, 97, 108, 34, 58, 34] ++ du) ++ [34, 125]) w45)) ∧ (decide (x48 = 19) = false →
 (decide (x48 = 255) = true →
 Kx [123, 34, 36, 109, 105, 110, 75, 101, 121, 34, 58, 49, 125] w1) ∧ (decide (x48 = 255) = false →
 (decide (x48 = 127) = true →
 Kx [123, 34, 36, 109, 97, 120, 75, 101, 121, 34, 58, 49, 125] w1) ∧ (decide (x48 = 127) = false →
 Kx [] w1)))))))))))))))))))))
def an52 : Ann :=
 .k .z
 (.k .z
 (.cut [(6, .str)] [1] (.k (.t [.q, .s [.int .u8]])
 (.block (.k .z
 (.cond 5 6 (.k (.t [.s [.int .u8, .slice], .s [.str, .bool]])
 (.k (.k .z
 (.cond 7 8 .zl .l))
 (.t [.q, .s [.str]]))) (.k .z
 (.cond 9 10 (.k (.t [.s [.int .u8, .slice], .s [.slice, .bool]])
 (.k (.k .z
 (.cond 11 12 .zl .l))
 (.k (.t [.q, .q, .s [.str, .bool]])
 .l))) (.k .z
 (.cond 13 14 (.k (.t [.s [.int .u8, .slice], .s [.slice, .bool]])
 (.k (.k .z
 (.cond 15 16 .zl .l))
 (.k (.t [.q, .q, .s [.str, .bool]])
 .l))) (.k .z
 (.cond 17 18 (.k (.t [.s [.int .u8, .slice], .s [.float, .bool]])
 (.k (.k .z
 (.cond 19 20 .zl .l))
 (.t [.q, .s [.str]]))) (.k .z
 (.cond 21 22 (.k (.t [.s [.int .u8, .slice], .s [.int .u8, .slice, .bool]])
 (.k (.k .z
 (.cond 23 24 .zl .l))
 (.t [.q, .s [.str], .q, .q, .q, .s [.str]]))) (.k .z
 (.cond 25 26 .z (.k .z
 (.cond 27 28 (.k (.t [.s [.int .u8, .slice], .s [.agg, .bool]])
 (.k (.k .z
 (.cond 29 30 .zl .l))
 (.t [.s [.int .u8, .int .u8, .int .u8, .int .u8, .int .u8, .int .u8, .int .u8, .int .u8, .int .u8, .int .u8, .int .u8, .int .u8], .s [.str]]))) (.k .z
 (.cond 31 32 (.k (.t [.s [.int .u8, .slice], .s [.bool, .bool]])
 (.k (.k .z
 (.cond 33 34 .zl .l))
 (.t [.q, .s [.str]]))) (.k .z
 (.cond 35 36 (.k (.t [.s [.int .u8, .slice], .s [.int .i64, .bool]])
 (.k (.k .z
 (.cond 37 38 .zl .l))
 (.t [.q, .s [.str]]))) (.k .z
 (.cond 39 40 .z (.k .z
 (.cond 41 42 (.k (.t [.s [.int .u8, .slice], .s [.str, .str, .bool]])
 (.k (.k .z
 (.cond 43 44 .zl .l))
 (.t [.q, .s [.str], .q, .q, .q, .s [.str]]))) (.k .z
 (.cond 45 46 (.k (.t [.s [.int .u8, .slice], .s [.str, .agg, .bool]])
 (.k (.k .z
 (.cond 47 48 .zl .l))
 (.reg (.held [5] (.take 0 (.q) (.take 4 (.s [.int .u8, .int .u8, .int .u8, .int .u8, .int .u8, .int .u8, .int .u8, .int .u8, .int .u8, .int .u8, .int .u8, .int .u8]) (.run 1 (.s [.str]) (.take 2 (.q) (.take 3 (.q) (.run 5 (.s [.str]) (.take 6 (.q) (.take 7 (.q) (.take 8 (.q) .done))) .done))) .done))))))) (.k .z
 (.cond 49 50 (.k (.t [.s [.int .u8, .slice], .s [.str, .bool]])
 (.k (.k .z
 (.cond 51 52 .zl .l))
 (.t [.q, .s [.str]]))) (.k .z
 (.cond 53 54 (.k (.t [.s [.int .u8, .slice], .s [.str, .bool]])
 (.k (.k .z
 (.cond 55 56 .zl .l))
 (.t [.q, .s [.str]]))) (.k .z
 (.cond 57 58 (.k (.t [.s [.int .u8, .slice], .s [.str, .slice, .bool]])
 (.k (.k .z
 (.cond 59 60 .zl .l))
 (.t [.q, .q, .q, .q, .s [.str]]))) (.k .z
 (.cond 61 62 (.k (.t [.s [.int .u8, .slice], .s [.int .i32, .bool]])
 (.k (.k .z
 (.cond 63 64 .zl .l))
 (.t [.q, .q, .s [.str]]))) (.k .z
 (.cond 65 66 (.k (.t [.s [.int .u8, .slice], .s [.int .u32, .int .u32, .bool]])
 (.k (.k .z
 (.cond 67 68 .zl .l))
 (.t [.q, .q, .s [.str], .q, .q, .q, .q, .s [.str]]))) (.k .z
 (.cond 69 70 (.k (.t [.s [.int .u8, .slice], .s [.int .i64, .bool]])
 (.k (.k .z
 (.cond 71 72 .zl .l))
 (.t [.q, .s [.str]]))) (.k .z
 (.cond 73 74 (.k (.t [.s [.int .u8, .slice], .s [.int .u64, .int .u64, .bool]])
 (.k (.k .z
 (.cond 75 76 .zl .l))
 (.t [.q, .q, .s [.str]]))) (.k .z
 (.cond 77 78 .z (.k .z
 (.cond 79 80 .z .z))))))))))))))))))))))))))))))))))))))))))))
 (.k (.k (.t [.q, .q, .q, .gs .n 1 2])
 (.on 2 (.no .l) (.cond 3 4 (.k (.t [.q, .q, .s [.str]])
 .l) .l)))
 .zl)))
theorem c52 (aa : Int) (ab : Ptr) (ac ad : Nat) (nx : Int) (w : World) (R : RR) (hvc : VC52 aa ab ac ad nx w R) : CR 52 [.agg ⟨[.int .u8 aa, .slice ab ac ad]⟩, .int .i64 nx] w R :=
 vcc (fn := f52) (ann := an52) hvc (by kernel_rfl) (by kernel_rfl)
def VC45 (d : Ptr) (d_n d_c : Nat) (nx : Int) (w : World) (R : RR) : Prop :=
 Calls prog 73 ⟨[.slice d d_n d_c]⟩ w fun e w1 => ∃ x17 : Int, ∃ (ap : Ptr) (ar au : Nat), ∃ aa : Bool, e = .returned (.tuple ⟨[.int .i32 x17, .slice ap ar au, .bool aa]⟩) ∧
 ((!aa) = true →
 R (.tuple ⟨[.string (mkS []), .bool false]⟩) w1) ∧ ((!aa) = false →
 (decide (x17 < 5) = true →
 R (.tuple ⟨[.string (mkS []), .bool false]⟩) w1) ∧ (decide (x17 < 5) = false →
 ∃ x28 : Int, IntKind.i32.wrap (x17 - 4) = x28 ∧
 ∃ x30 : Int, IntKind.i32.wrap (x28 - 1) = x30 ∧
 (decide (nx = 0) = true →
 R (.tuple ⟨[.string (mkS []), .bool true]⟩) w1) ∧ (decide (nx = 0) = false →
 ∀ w2, w2 = w1.alloc (.cells ⟨[.pointer none, .slice none 0 0]⟩ 128) →
 Calls prog 74 ⟨[.pointer (some (⟨w1.heap.size, 0, none⟩)), .int .u8 123]⟩ w2 fun e w3 => e = .returned .nilIface ∧
 ∀ Kx : Bool → World → Prop, (∀ ab : Bool, ∀ w4,
 ((decide (nx ≤ 0) = true →
 Calls prog 74 ⟨[.pointer (some (⟨w1.heap.size, 0, none⟩)), .int .u8 125]⟩ w4 fun e w5 => e = .returned .nilIface ∧
 Calls prog 79 ⟨[.pointer (some (⟨w1.heap.size, 0, none⟩))]⟩ w5 fun e w6 => ∃ x94 : Bs, e = .returned (.string (mkS x94)) ∧
 R (.tuple ⟨[.string (mkS x94), .bool ab]⟩) w6) ∧ (decide (nx ≤ 0) = false →
 Calls prog 75 ⟨[.pointer (some (⟨w1.heap.size, 0, none⟩))]⟩ w4 fun e w7 => ∃ x85 : Int, e = .returned (.int .i64 x85) ∧
 (decide (x85 < nx) = true →
 ((!ab) = true →
 Calls prog 74 ⟨[.pointer (some (⟨w1.heap.size, 0, none⟩)), .int .u8 125]⟩ w7 fun e w8 => e = .returned .nilIface ∧
 Calls prog 79 ⟨[.pointer (some (⟨w1.heap.size, 0, none⟩))]⟩ w8 fun e w9 => ∃ ac : Bs, e = .returned (.string (mkS ac)) ∧
 R (.tuple ⟨[.string (mkS ac), .bool ab]⟩) w9) ∧ ((!ab) = false →
 Calls prog 79 ⟨[.pointer (some (⟨w1.heap.size, 0, none⟩))]⟩ w7 fun e w10 => ∃ ad : Bs, e = .returned (.string (mkS ad)) ∧
 R (.tuple ⟨[.string (mkS ad), .bool true]⟩) w10)) ∧ (decide (x85 < nx) = false →
 Calls prog 79 ⟨[.pointer (some (⟨w1.heap.size, 0, none⟩))]⟩ w7 fun e w11 => ∃ ae : Bs, e = .returned (.string (mkS ae)) ∧
 R (.tuple ⟨[.string (mkS ae), .bool true]⟩) w11))) → Kx ab w4) →
 ∃ Ix : Nat → Int → Ptr → Nat → Nat → Bool → Bool → World → Prop, (∃ m_2, Ix m_2 x30 ap ar au false true w3) ∧
 ∀ m, ∀ af : Int, ∀ (rem : Ptr) (av aw : Nat), ∀ ag : Bool, ∀ ah : Bool, ∀ w12, Ix m af rem av aw ag ah w12 →
 (decide (0 < af) = true →
 ((!ag) = true →
 ∀ ai : Int → World → Prop, (∀ aj : Int, ∀ w13,
 (∀ ak : Int → World → Prop, (∀ al : Int, ∀ w14,
 (Calls prog 76 ⟨[.slice rem av aw]⟩ w14 fun e w15 => ∃ (x59 : Ptr) (ax ay : Nat), ∃ (aq : Ptr) (az ba : Nat), ∃ am : Bool, e = .returned (.tuple ⟨[.slice x59 ax ay, .slice aq az ba, .bool am]⟩) ∧
 ∃ x66 : Int, IntKind.i32.wrap (ax : Int) = x66 ∧
 ∃ x67 : Int, IntKind.i32.wrap (af - x66) = x67 ∧
 ((!am) = true →
 R (.tuple ⟨[.string (mkS []), .bool false]⟩) w15) ∧ ((!am) = false →
 (decide (x67 < 0) = true →
 R (.tuple ⟨[.string (mkS []), .bool false]⟩) w15) ∧ (decide (x67 < 0) = false →
 Calls prog 77 ⟨[.slice x59 ax ay, .int .i64 al]⟩ w15 fun e w16 => ∃ x77 : Bs, ∃ ao : Bool, e = .returned (.tuple ⟨[.string (mkS x77), .bool ao]⟩) ∧
 Calls prog 78 ⟨[.pointer (some (⟨w1.heap.size, 0, none⟩)), .string (mkS x77)]⟩ w16 fun e w17 => ∃ x81 : Int, e = .returned (.tuple ⟨[.int .i64 x81, .nilIface]⟩) ∧
 ∃ m_1, m_1 < m ∧ Ix m_1 x67 aq az ba ao false w17))) → ak al w14) →
 ((!ah) = true →
 Calls prog 74 ⟨[.pointer (some (⟨w1.heap.size, 0, none⟩)), .int .u8 44]⟩ w13 fun e w18 => e = .returned .nilIface ∧
 (decide (0 < aj) = true →
 ∃ x54 : Int, IntKind.i64.wrap (aj - 1) = x54 ∧
 (decide (x54 = 0) = true →
 Kx true w18) ∧ (decide (x54 = 0) = false →
 ak x54 w18)) ∧ (decide (0 < aj) = false →
 ak aj w18)) ∧ ((!ah) = false →
 ak aj w13)) → ai aj w13) →
 (decide (0 < nx) = true →
 Calls prog 75 ⟨[.pointer (some (⟨w1.heap.size, 0, none⟩))]⟩ w12 fun e w19 => ∃ x42 : Int, e = .returned (.int .i64 x42) ∧
 (decide (nx ≤ x42) = true →
 Kx true w19) ∧ (decide (nx ≤ x42) = false →
 Calls prog 75 ⟨[.pointer (some (⟨w1.heap.size, 0, none⟩))]⟩ w19 fun e w20 => ∃ x46 : Int, e = .returned (.int .i64 x46) ∧
 ∃ x47 : Int, IntKind.i64.wrap (nx - x46) = x47 ∧
 ai x47 w20)) ∧ (decide (0 < nx) = false →
 ai (-1) w12)) ∧ ((!ag) = false →
 Kx ag w12)) ∧ (decide (0 < af) = false →
 Kx ag w12))))
def an45 : Ann :=
 .k .z
 (.k (.t [.q, .s [.int .i32, .slice, .bool]])
 (.k (.k (.t [.q, .q, .q, .gs .n 1 2])
 (.on 2 (.cond 3 4 .zl .l) (.yes .zl)))
 (.k .z
 (.k .z
 (.k (.k .z
 (.cond 5 6 .zl .l))
 (.k .z
 (.k (.t [.s [.nil]])
 (.k .z
 (.k .z
 (.k .z
 (.k .z
 (.cut [(10, .bool)] [1, 9] (.block (.loop [(6, .int .i32), (7, .slice), (10, .bool), (13, .bool)] [1, 9] (.k (.k (.t [.q, .q, .q, .gs .n 13 14])
 (.on 14 (.no .l) (.cond 15 16 .l .l)))
 (.block (.k .z
 (.cut [(14, .int .i64)] [1, 6, 7, 9, 13] (.k .z
 (.cond 27 28 (.k (.k (.t [.s [.int .i64]])
 (.cond 29 30 .zl .l))
 (.t [.q, .s [.int .i64]])) .l))
 (.cut [(14, .int .i64)] [1, 6, 7, 9] (.k .z
 (.cond 21 22 (.k (.t [.s [.nil]])
 (.k .z
 (.cond 23 24 (.k .z
 (.k .z
 (.cond 25 26 .zl .l))) .l))) .l))
 (.k (.t [.q, .s [.slice, .slice, .bool]])
 (.k .z
 (.k (.k (.t [.q, .q, .q, .gs .n 17 18])
 (.on 18 (.cond 19 20 .zl .l) (.yes .zl)))
 (.k (.t [.q, .q, .s [.str, .bool]])
 (.k (.t [.q, .s [.int .i64, .nil]])
 .z))))))))))))
 (.k (.k (.t [.q, .q, .q, .gs (.sh [.int .i64]) 7 8, .q, .q, .q, .on 8 (.gs .n 9 10) (.q)])
 (.on 10 (.no .z) (.on 9 (.cond 11 12 (.t [.s [.nil]]) .z) (.yes (.t [.s [.nil]])))))
 (.k (.t [.s [.str]])
 .l))))))))))))))
theorem c45 (d : Ptr) (d_n d_c : Nat) (nx : Int) (w : World) (R : RR) (hvc : VC45 d d_n d_c nx w R) : CR 45 [.slice d d_n d_c, .int .i64 nx] w R :=
 vcc (fn := f45) (ann := an45) hvc (by kernel_rfl) (by kernel_rfl)
def VC85 (a : Ptr) (a_n a_c : Nat) (nx : Int) (w : World) (R : RR) : Prop :=
 Calls prog 73 ⟨[.slice a a_n a_c]⟩ w fun e w1 => ∃ x17 : Int, ∃ (ap : Ptr) (ar au : Nat), ∃ aa : Bool, e = .returned (.tuple ⟨[.int .i32 x17, .slice ap ar au, .bool aa]⟩) ∧
 ((!aa) = true →
 R (.tuple ⟨[.string (mkS []), .bool false]⟩) w1) ∧ ((!aa) = false →
 (decide (x17 < 5) = true →
 R (.tuple ⟨[.string (mkS []), .bool false]⟩) w1) ∧ (decide (x17 < 5) = false →
 ∃ x28 : Int, IntKind.i32.wrap (x17 - 4) = x28 ∧
 ∃ x30 : Int, IntKind.i32.wrap (x28 - 1) = x30 ∧
 (decide (nx = 0) = true →
 R (.tuple ⟨[.string (mkS []), .bool true]⟩) w1) ∧ (decide (nx = 0) = false →
 ∀ w2, w2 = w1.alloc (.cells ⟨[.pointer none, .slice none 0 0]⟩ 128) →
 Calls prog 74 ⟨[.pointer (some (⟨w1.heap.size, 0, none⟩)), .int .u8 91]⟩ w2 fun e w3 => e = .returned .nilIface ∧
 ∀ Kx : Bool → World → Prop, (∀ ab : Bool, ∀ w4,
 ((decide (nx ≤ 0) = true →
 Calls prog 74 ⟨[.pointer (some (⟨w1.heap.size, 0, none⟩)), .int .u8 93]⟩ w4 fun e w5 => e = .returned .nilIface ∧
 Calls prog 79 ⟨[.pointer (some (⟨w1.heap.size, 0, none⟩))]⟩ w5 fun e w6 => ∃ x95 : Bs, e = .returned (.string (mkS x95)) ∧
 R (.tuple ⟨[.string (mkS x95), .bool ab]⟩) w6) ∧ (decide (nx ≤ 0) = false →
 Calls prog 75 ⟨[.pointer (some (⟨w1.heap.size, 0, none⟩))]⟩ w4 fun e w7 => ∃ x86 : Int, e = .returned (.int .i64 x86) ∧
 (decide (x86 < nx) = true →
 ((!ab) = true →
 Calls prog 74 ⟨[.pointer (some (⟨w1.heap.size, 0, none⟩)), .int .u8 93]⟩ w7 fun e w8 => e = .returned .nilIface ∧
 Calls prog 79 ⟨[.pointer (some (⟨w1.heap.size, 0, none⟩))]⟩ w8 fun e w9 => ∃ ac : Bs, e = .returned (.string (mkS ac)) ∧
 R (.tuple ⟨[.string (mkS ac), .bool ab]⟩) w9) ∧ ((!ab) = false →
 Calls prog 79 ⟨[.pointer (some (⟨w1.heap.size, 0, none⟩))]⟩ w7 fun e w10 => ∃ ad : Bs, e = .returned (.string (mkS ad)) ∧
 R (.tuple ⟨[.string (mkS ad), .bool true]⟩) w10)) ∧ (decide (x86 < nx) = false →
 Calls prog 79 ⟨[.pointer (some (⟨w1.heap.size, 0, none⟩))]⟩ w7 fun e w11 => ∃ ae : Bs, e = .returned (.string (mkS ae)) ∧
 R (.tuple ⟨[.string (mkS ae), .bool true]⟩) w11))) → Kx ab w4) →
 ∃ Ix : Nat → Int → Ptr → Nat → Nat → Bool → Bool → World → Prop, (∃ m_2, Ix m_2 x30 ap ar au false true w3) ∧
 ∀ m, ∀ af : Int, ∀ (rem : Ptr) (av aw : Nat), ∀ ag : Bool, ∀ ah : Bool, ∀ w12, Ix m af rem av aw ag ah w12 →
 (decide (0 < af) = true →
 ((!ag) = true →
 ∀ ai : Int → World → Prop, (∀ aj : Int, ∀ w13,
 (∀ ak : Int → World → Prop, (∀ al : Int, ∀ w14,
 (Calls prog 76 ⟨[.slice rem av aw]⟩ w14 fun e w15 => ∃ (x59 : Ptr) (ax ay : Nat), ∃ (aq : Ptr) (az ba : Nat), ∃ am : Bool, e = .returned (.tuple ⟨[.slice x59 ax ay, .slice aq az ba, .bool am]⟩) ∧
 ∃ x66 : Int, IntKind.i32.wrap (ax : Int) = x66 ∧
 ∃ x67 : Int, IntKind.i32.wrap (af - x66) = x67 ∧
 ((!am) = true →
 R (.tuple ⟨[.string (mkS []), .bool false]⟩) w15) ∧ ((!am) = false →
 (decide (x67 < 0) = true →
 R (.tuple ⟨[.string (mkS []), .bool false]⟩) w15) ∧ (decide (x67 < 0) = false →
 Calls prog 145 ⟨[.slice x59 ax ay]⟩ w15 fun e w16 => ∃ x76 : List Value, e = .returned (.agg ⟨x76⟩) ∧
 Calls prog 52 ⟨[.agg ⟨x76⟩, .int .i64 al]⟩ w16 fun e w17 => ∃ x78 : Bs, ∃ ao : Bool, e = .returned (.tuple ⟨[.string (mkS x78), .bool ao]⟩) ∧
 Calls prog 78 ⟨[.pointer (some (⟨w1.heap.size, 0, none⟩)), .string (mkS x78)]⟩ w17 fun e w18 => ∃ x82 : Int, e = .returned (.tuple ⟨[.int .i64 x82, .nilIface]⟩) ∧
 ∃ m_1, m_1 < m ∧ Ix m_1 x67 aq az ba ao false w18))) → ak al w14) →
 ((!ah) = true →
 Calls prog 74 ⟨[.pointer (some (⟨w1.heap.size, 0, none⟩)), .int .u8 44]⟩ w13 fun e w19 => e = .returned .nilIface ∧
 (decide (0 < aj) = true →
 ∃ x54 : Int, IntKind.i64.wrap (aj - 1) = x54 ∧
 (decide (x54 = 0) = true →
 Kx true w19) ∧ (decide (x54 = 0) = false →
 ak x54 w19)) ∧ (decide (0 < aj) = false →
 ak aj w19)) ∧ ((!ah) = false →
 ak aj w13)) → ai aj w13) →
 (decide (0 < nx) = true →
 Calls prog 75 ⟨[.pointer (some (⟨w1.heap.size, 0, none⟩))]⟩ w12 fun e w20 => ∃ x42 : Int, e = .returned (.int .i64 x42) ∧
 (decide (nx ≤ x42) = true →
 Kx true w20) ∧ (decide (nx ≤ x42) = false →
 Calls prog 75 ⟨[.pointer (some (⟨w1.heap.size, 0, none⟩))]⟩ w20 fun e w21 => ∃ x46 : Int, e = .returned (.int .i64 x46) ∧
 ∃ x47 : Int, IntKind.i64.wrap (nx - x46) = x47 ∧
 ai x47 w21)) ∧ (decide (0 < nx) = false →
 ai (-1) w12)) ∧ ((!ag) = false →
 Kx ag w12)) ∧ (decide (0 < af) = false →
 Kx ag w12))))
def an85 : Ann :=
 .k .z
 (.k (.t [.q, .s [.int .i32, .slice, .bool]])
 (.k (.k (.t [.q, .q, .q, .gs .n 1 2])
 (.on 2 (.cond 3 4 .zl .l) (.yes .zl)))
 (.k .z
 (.k .z
 (.k (.k .z
 (.cond 5 6 .zl .l))
 (.k .z
 (.k (.t [.s [.nil]])
 (.k .z
 (.k .z
 (.k .z
 (.k .z
 (.cut [(10, .bool)] [1, 9] (.block (.loop [(6, .int .i32), (7, .slice), (10, .bool), (13, .bool)] [1, 9] (.k (.k (.t [.q, .q, .q, .gs .n 13 14])
 (.on 14 (.no .l) (.cond 15 16 .l .l)))
 (.block (.k .z
 (.cut [(14, .int .i64)] [1, 6, 7, 9, 13] (.k .z
 (.cond 27 28 (.k (.k (.t [.s [.int .i64]])
 (.cond 29 30 .zl .l))
 (.t [.q, .s [.int .i64]])) .l))
 (.cut [(14, .int .i64)] [1, 6, 7, 9] (.k .z
 (.cond 21 22 (.k (.t [.s [.nil]])
 (.k .z
 (.cond 23 24 (.k .z
 (.k .z
 (.cond 25 26 .zl .l))) .l))) .l))
 (.k (.t [.q, .s [.slice, .slice, .bool]])
 (.k .z
 (.k (.k (.t [.q, .q, .q, .gs .n 17 18])
 (.on 18 (.cond 19 20 .zl .l) (.yes .zl)))
 (.k (.t [.q, .s [.agg], .q, .s [.str, .bool]])
 (.k (.t [.q, .s [.int .i64, .nil]])
 .z))))))))))))
 (.k (.k (.t [.q, .q, .q, .gs (.sh [.int .i64]) 7 8, .q, .q, .q, .on 8 (.gs .n 9 10) (.q)])
 (.on 10 (.no .z) (.on 9 (.cond 11 12 (.t [.s [.nil]]) .z) (.yes (.t [.s [.nil]])))))
 (.k (.t [.s [.str]])
 .l))))))))))))))
theorem c85 (a : Ptr) (a_n a_c : Nat) (nx : Int) (w : World) (R : RR) (hvc : VC85 a a_n a_c nx w R) : CR 85 [.slice a a_n a_c, .int .i64 nx] w R :=
 vcc (fn := f85) (ann := an85) hvc (by kernel_rfl) (by kernel_rfl)
def VC77 (ex : Ptr) (bi bj : Nat) (nx : Int) (w : World) (R : RR) : Prop :=
 (decide ((bi : Int) = 0) = true →
 R (.tuple ⟨[.string (mkS []), .bool false]⟩) w) ∧ (decide ((bi : Int) = 0) = false →
 (decide (nx = 0) = true →
 R (.tuple ⟨[.string (mkS []), .bool true]⟩) w) ∧ (decide (nx = 0) = false →
 (decide (nx = 1) = true →
 R (.tuple ⟨[.string (mkS [34]), .bool true]⟩) w) ∧ (decide (nx = 1) = false →
 ((0 : Int) ≤ 0 ∧ 0 < (bi : Int)) ∧ ∃ exa : Addr, ex = some exa ∧
 ∃ x29 : Int, w.cell? exa = some (.int .u8 x29) ∧
 ((0 : Int) ≤ 1 ∧ 1 ≤ (bi : Int) ∧ (bi : Int) ≤ (bj : Int)) ∧
 Calls prog 136 ⟨[.slice (slAddr ex bj 1 1) (bi - 1) (bj - 1), .int .u8 0]⟩ w fun e w1 => ∃ x32 : Int, e = .returned (.int .i64 x32) ∧
 (decide (x32 ≤ 0) = true →
 R (.tuple ⟨[.string (mkS []), .bool false]⟩) w1) ∧ (decide (x32 ≤ 0) = false →
 ∃ x37 : Int, IntKind.i64.wrap (x32 + 1) = x37 ∧
 ((0 : Int) ≤ 1 ∧ (1 : Int) ≤ x37 ∧ x37 ≤ (bj : Int)) ∧
 ∀ w2, w2 = w1.alloc (.cells ⟨[.pointer none, .slice none 0 0]⟩ 128) →
 Calls prog 74 ⟨[.pointer (some (⟨w1.heap.size, 0, none⟩)), .int .u8 34]⟩ w2 fun e w3 => e = .returned .nilIface ∧
 ∀ Kx : World → Prop, (∀ w4,
 (∀ aa : Int → World → Prop, (∀ ab : Int, ∀ w5,
 (∃ x86 : Int, IntKind.i64.wrap (x32 + 2) = x86 ∧
 ((0 : Int) ≤ x86 ∧ x86 ≤ (bi : Int) ∧ (bi : Int) ≤ (bj : Int)) ∧
 Calls prog 138 ⟨[.slice (slAddr ex bj x86.toNat 1) (bi - x86.toNat) (bj - x86.toNat), .int .u8 x29]⟩ w5 fun e w6 => ∃ x89 : List Value, ∃ (bc : Ptr) (bk bl : Nat), ∃ ac : Bool, e = .returned (.tuple ⟨[.agg ⟨x89⟩, .slice bc bk bl, .bool ac]⟩) ∧
 ∀ w7, w7 = w6.alloc (.cells ⟨[.int .u8 0, .slice none 0 0]⟩ 92) →
 ∃ w8, (Instr.storeAt 92 (.pointer (some ⟨w6.heap.size, 0, none⟩)) (.agg ⟨x89⟩)).run prog w7 = .ok () w8 ∧
 ((!ac) = true →
 R (.tuple ⟨[.string (mkS []), .bool false]⟩) w8) ∧ ((!ac) = false →
 ∃ x96 : Int, ∃ (bd : Ptr) (bm bn : Nat), LoadsRow prog 92 w8 ⟨w6.heap.size, 0, none⟩ [.int .u8 x96, .slice bd bm bn] ∧
 Calls prog 81 ⟨[.agg ⟨[.int .u8 x96, .slice bd bm bn]⟩]⟩ w8 fun e w9 => ∃ x97 : Bs, ∃ ad : Bool, e = .returned (.tuple ⟨[.string (mkS x97), .bool ad]⟩) ∧
 (ad = true →
 ∃ ae : Int, ∃ (be : Ptr) (bo bp : Nat), LoadsRow prog 92 w9 ⟨w6.heap.size, 0, none⟩ [.int .u8 ae, .slice be bo bp] ∧
 Calls prog 52 ⟨[.agg ⟨[.int .u8 ae, .slice be bo bp]⟩, .int .i64 ab]⟩ w9 fun e w10 => ∃ af : Bs, ∃ ag : Bool, e = .returned (.tuple ⟨[.string (mkS af), .bool ag]⟩) ∧
 Calls prog 78 ⟨[.pointer (some (⟨w1.heap.size, 0, none⟩)), .string (mkS af)]⟩ w10 fun e w11 => ∃ ah : Int, e = .returned (.tuple ⟨[.int .i64 ah, .nilIface]⟩) ∧
 Calls prog 79 ⟨[.pointer (some (⟨w1.heap.size, 0, none⟩))]⟩ w11 fun e w12 => ∃ ai : Bs, e = .returned (.string (mkS ai)) ∧
 R (.tuple ⟨[.string (mkS ai), .bool ag]⟩) w12) ∧ (ad = false →
 ∃ aj : Int, ∃ (bf : Ptr) (bq br : Nat), LoadsRow prog 92 w9 ⟨w6.heap.size, 0, none⟩ [.int .u8 aj, .slice bf bq br] ∧
 Calls prog 84 ⟨[.agg ⟨[.int .u8 aj, .slice bf bq br]⟩]⟩ w9 fun e w13 => ∃ (bg : Ptr) (bs bt : Nat), ∃ ak : Bool, e = .returned (.tuple ⟨[.slice bg bs bt, .bool ak]⟩) ∧
 (ak = true →
 Calls prog 85 ⟨[.slice bg bs bt, .int .i64 ab]⟩ w13 fun e w14 => ∃ al : Bs, ∃ am : Bool, e = .returned (.tuple ⟨[.string (mkS al), .bool am]⟩) ∧
 Calls prog 78 ⟨[.pointer (some (⟨w1.heap.size, 0, none⟩)), .string (mkS al)]⟩ w14 fun e w15 => ∃ ao : Int, e = .returned (.tuple ⟨[.int .i64 ao, .nilIface]⟩) ∧
 Calls prog 79 ⟨[.pointer (some (⟨w1.heap.size, 0, none⟩))]⟩ w15 fun e w16 => ∃ ap : Bs, e = .returned (.string (mkS ap)) ∧
 R (.tuple ⟨[.string (mkS ap), .bool am]⟩) w16) ∧ (ak = false →
 ∃ aq : Int, ∃ (bh : Ptr) (bu bv : Nat), LoadsRow prog 92 w13 ⟨w6.heap.size, 0, none⟩ [.int .u8 aq, .slice bh bu bv] ∧
 Calls prog 53 ⟨[.agg ⟨[.int .u8 aq, .slice bh bu bv]⟩]⟩ w13 fun e w17 => ∃ ar : Bs, e = .returned (.string (mkS ar)) ∧
 (decide (0 < ab) = true →
 (decide (ab < (ar.length : Int)) = true →
 Calls prog 108 ⟨[.string (mkS ar), .int .i64 ab]⟩ w17 fun e w18 => ∃ au : Bs, e = .returned (.string (mkS au)) ∧
 Calls prog 78 ⟨[.pointer (some (⟨w1.heap.size, 0, none⟩)), .string (mkS au)]⟩ w18 fun e w19 => ∃ av : Int, e = .returned (.tuple ⟨[.int .i64 av, .nilIface]⟩) ∧
 Calls prog 79 ⟨[.pointer (some (⟨w1.heap.size, 0, none⟩))]⟩ w19 fun e w20 => ∃ aw : Bs, e = .returned (.string (mkS aw)) ∧
 R (.tuple ⟨[.string (mkS aw), .bool true]⟩) w20) ∧ (decide (ab < (ar.length : Int)) = false →
 Calls prog 78 ⟨[.pointer (some (⟨w1.heap.size, 0, none⟩)), .string (mkS ar)]⟩ w17 fun e w21 => ∃ ax : Int, e = .returned (.tuple ⟨[.int .i64 ax, .nilIface]⟩) ∧
 Calls prog 79 ⟨[.pointer (some (⟨w1.heap.size, 0, none⟩))]⟩ w21 fun e w22 => ∃ ay : Bs, e = .returned (.string (mkS ay)) ∧
 R (.tuple ⟨[.string (mkS ay), .bool false]⟩) w22)) ∧ (decide (0 < ab) = false →
 Calls prog 78 ⟨[.pointer (some (⟨w1.heap.size, 0, none⟩)), .string (mkS ar)]⟩ w17 fun e w23 => ∃ az : Int, e = .returned (.tuple ⟨[.int .i64 az, .nilIface]⟩) ∧
 Calls prog 79 ⟨[.pointer (some (⟨w1.heap.size, 0, none⟩))]⟩ w23 fun e w24 => ∃ ba : Bs, e = .returned (.string (mkS ba)) ∧
 R (.tuple ⟨[.string (mkS ba), .bool false]⟩) w24))))) → aa ab w5) →
 (decide (0 < nx) = true →
 Calls prog 75 ⟨[.pointer (some (⟨w1.heap.size, 0, none⟩))]⟩ w4 fun e w25 => ∃ x76 : Int, e = .returned (.int .i64 x76) ∧
 (decide (nx ≤ x76) = true →
 Calls prog 79 ⟨[.pointer (some (⟨w1.heap.size, 0, none⟩))]⟩ w25 fun e w26 => ∃ x79 : Bs, e = .returned (.string (mkS x79)) ∧
 R (.tuple ⟨[.string (mkS x79), .bool true]⟩) w26) ∧ (decide (nx ≤ x76) = false →
 Calls prog 75 ⟨[.pointer (some (⟨w1.heap.size, 0, none⟩))]⟩ w25 fun e w27 => ∃ x81 : Int, e = .returned (.int .i64 x81) ∧
 ∃ x82 : Int, IntKind.i64.wrap (nx - x81) = x82 ∧
 aa x82 w27)) ∧ (decide (0 < nx) = false →
 aa (-1) w4)) → Kx w4) →
 ∀ bb : Bool → World → Prop, (∀ x47 : Bool, ∀ w28,
 ((x47 = true →
 Calls prog 137 ⟨[.pointer (some (⟨w1.heap.size, 0, none⟩)), .slice (slAddr ex bj 1 1) (x37.toNat - 1) (bj - 1)]⟩ w28 fun e w29 => ∃ x59 : Int, e = .returned (.tuple ⟨[.int .i64 x59, .nilIface]⟩) ∧
 Calls prog 78 ⟨[.pointer (some (⟨w1.heap.size, 0, none⟩)), .string (mkS [34, 58, 32])]⟩ w29 fun e w30 => ∃ x60 : Int, e = .returned (.tuple ⟨[.int .i64 x60, .nilIface]⟩) ∧
 Kx w30) ∧ (x47 = false →
 (decide (x32 < nx) = true →
 Calls prog 137 ⟨[.pointer (some (⟨w1.heap.size, 0, none⟩)), .slice (slAddr ex bj 1 1) (x37.toNat - 1) (bj - 1)]⟩ w28 fun e w31 => ∃ x66 : Int, e = .returned (.tuple ⟨[.int .i64 x66, .nilIface]⟩) ∧
 ∃ x69 : Int, IntKind.i64.wrap (nx - x32) = x69 ∧
 ∃ x70 : Int, IntKind.i64.wrap (x69 - 1) = x70 ∧
 (0 ≤ x70 ∧ x70 ≤ ([34, 58, 32].length : Int)) ∧
 Calls prog 78 ⟨[.pointer (some (⟨w1.heap.size, 0, none⟩)), .string (mkS ([34, 58, 32].take x70.toNat))]⟩ w31 fun e w32 => ∃ x72 : Int, e = .returned (.tuple ⟨[.int .i64 x72, .nilIface]⟩) ∧
 Calls prog 79 ⟨[.pointer (some (⟨w1.heap.size, 0, none⟩))]⟩ w32 fun e w33 => ∃ x73 : Bs, e = .returned (.string (mkS x73)) ∧
 R (.tuple ⟨[.string (mkS x73), .bool true]⟩) w33) ∧ (decide (x32 < nx) = false →
 ∃ x41 : Bs, ∃ w34, (convert 130 9 (.slice (slAddr ex bj 1 1) (x37.toNat - 1) (bj - 1))).run prog w28 = .ok (.string (mkS x41)) w34 ∧
 ∃ x43 : Int, IntKind.i64.wrap (nx - 1) = x43 ∧
 Calls prog 108 ⟨[.string (mkS x41), .int .i64 x43]⟩ w34 fun e w35 => ∃ x44 : Bs, e = .returned (.string (mkS x44)) ∧
 Calls prog 78 ⟨[.pointer (some (⟨w1.heap.size, 0, none⟩)), .string (mkS x44)]⟩ w35 fun e w36 => ∃ x45 : Int, e = .returned (.tuple ⟨[.int .i64 x45, .nilIface]⟩) ∧
 Calls prog 79 ⟨[.pointer (some (⟨w1.heap.size, 0, none⟩))]⟩ w36 fun e w37 => ∃ x46 : Bs, e = .returned (.string (mkS x46)) ∧
 R (.tuple ⟨[.string (mkS x46), .bool true]⟩) w37))) → bb x47 w28) →
 (decide (nx < 0) = true →
 bb true w3) ∧ (decide (nx < 0) = false →
 Calls prog 75 ⟨[.pointer (some (⟨w1.heap.size, 0, none⟩))]⟩ w3 fun e w38 => ∃ x53 : Int, e = .returned (.int .i64 x53) ∧
 ∃ x54 : Int, IntKind.i64.wrap (nx - x53) = x54 ∧
 ∃ x55 : Int, IntKind.i64.wrap (x54 - 3) = x55 ∧
 bb (decide (x32 ≤ x55)) w38)))))
def an77 : Ann :=
 .k .z
 (.k (.k .z
 (.cond 1 2 .zl .l))
 (.k (.k .z
 (.cond 3 4 .zl .l))
 (.k (.k .z
 (.cond 5 6 .zl .l))
 (.k (.t [.q, .s [], .s [.int .u8]])
 (.k (.t [.q, .q, .s [.int .i64]])
 (.k (.k .z
 (.cond 7 8 .zl .l))
 (.k .z
 (.k .z
 (.k (.t [.s [.nil]])
 (.cut [] [0, 1, 6, 7, 9] (.block (.cut [(47, .bool)] [0, 1, 6, 7, 8, 9] (.t [.q, .q, .q, .gs .n 27 28, .q, .on 28 (.s [.int .i64]) (.q)])
 (.cond 23 24 (.k (.t [.q, .s [.int .i64, .nil]])
 (.t [.s [.int .i64, .nil]])) (.k .z
 (.cond 25 26 (.k (.t [.q, .s [.int .i64, .nil]])
 (.k (.t [.q, .q, .q, .q, .q, .s [.int .i64, .nil]])
 (.k (.t [.s [.str]])
 .l))) (.k (.t [.q, .s [.str], .q, .q, .s [.str], .s [.int .i64, .nil]])
 (.k (.t [.s [.str]])
 .l)))))))
 (.k .z
 (.cut [(10, .int .i64)] [0, 6, 7, 9] (.k .z
 (.cond 19 20 (.k (.k (.t [.s [.int .i64]])
 (.cond 21 22 (.k (.t [.s [.str]])
 .l) .l))
 (.t [.q, .s [.int .i64]])) .l))
 (.k (.t [.q, .q, .q, .q, .q, .s [.agg, .slice, .bool]])
 (.k (.k .z
 (.cond 9 10 .zl .l))
 (.k .z
 (.k .z
 (.k (.k (.t [.s [.int .u8, .slice], .s [.str, .bool]])
 (.k .z
 (.cond 11 12 (.t [.s [.int .u8, .slice], .q, .s [.str, .bool]]) (.k (.t [.s [.int .u8, .slice], .s [.slice, .bool]])
 (.k .z
 (.cond 13 14 (.t [.q, .q, .s [.str, .bool]]) (.k (.t [.s [.int .u8, .slice], .s [.str]])
 (.k (.t [.q, .q, .q, .gs .n 15 16])
 (.on 16 (.no .l) (.cond 17 18 (.k .z
 (.t [.q, .q, .s [.str]])) .l))))))))))
 (.k (.t [.q, .s [.int .i64, .nil]])
 (.k (.t [.s [.str]])
 .l)))))))))))))))))))
theorem c77 (ex : Ptr) (aa ab : Nat) (nx : Int) (w : World) (R : RR) (hvc : VC77 ex aa ab nx w R) : CR 77 [.slice ex aa ab, .int .i64 nx] w R :=
 vcc (fn := f77) (ann := an77) hvc (by kernel_rfl) (by kernel_rfl)
end Go.Proofs.Tryz
