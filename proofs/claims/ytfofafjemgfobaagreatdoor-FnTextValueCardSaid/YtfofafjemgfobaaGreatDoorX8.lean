/- Parts of a proof, joined: W2, VD, A7, A8, A9. -/
import Derived.Test.YtfofafjemgfobaaGreatDoorX7
import Derived.Test.YtfofafjemgfobaaGreatDoorX5
import Derived.Test.YtfofafjemgfobaaGreatDoorX4
set_option linter.unusedVariables false
namespace Go.Proofs.Tryz
open Go.Vc Go.RowKit
def Buf (b : Nat) (l : List UInt8) (w : World) : Prop := Lib.IsBuffer 69 5 b b (bc l) w
theorem Buf.new (w : World) : Buf w.heap.size [] (w.alloc (.cells ⟨[.slice none 0 0, .int .i64 0, .int .i8 0]⟩ 69)) := Lib.fresh_isBuffer 69 5 w
theorem Buf.lt {b : Nat} {l : List UInt8} {w : World} (h : Buf b l w) : b < w.heap.size := Lib.IsBuffer.lt h
theorem Buf.byte {b : Nat} {l : List UInt8} {w : World} (h : Buf b l w) (x : UInt8) (hl : l.length ≤ 1099511627776) :
    Calls prog 140 ⟨[.pointer (some ⟨b, 0, none⟩), .int .u8 (x.toNat : Int)]⟩ w fun e w' => e = .returned .nilIface ∧ Buf b (l ++ [x]) w' ∧ Below b w w' := by
  refine (Buffer_WriteByte_k b b (bc l) (x.toNat : Int) w h (Nat.le_of_lt h.lt) (bc_one l) (by rw [bc_length]; omega)).mono fun e w' ⟨he, hb, hk, _⟩ => ⟨he, ?_, hk⟩
  unfold Buf
  rw [bc_append]; exact hb
theorem Buf.str {b : Nat} {l : List UInt8} {w : World} (h : Buf b l w) (s : List UInt8) (hl : l.length + s.length ≤ 1099511627776) :
    Calls prog 141 ⟨[.pointer (some ⟨b, 0, none⟩), .string (mkS s)]⟩ w fun e w' => e = .returned (.tuple ⟨[.int .i64 (s.length : Int), .nilIface]⟩) ∧ Buf b (l ++ s) w' ∧ Below b w w' := by
  refine (Buffer_WriteString_k b b (bc l) (mkS s) w h (Nat.le_of_lt h.lt) (bc_one l) (by rw [bc_length]; show l.length + s.length ≤ _; omega)).mono fun e w' ⟨he, hb, hk, _⟩ => ⟨he, ?_, hk⟩
  unfold Buf
  rw [bc_append]; exact hb
theorem keeps_drewN (w : World) (n : Nat) : Keeps w (w.drewN n) := ⟨rfl, rfl, rfl, Nat.le_refl _, fun _ _ => rfl⟩
theorem Buf.out {b : Nat} {l : List UInt8} {w : World} (h : Buf b l w) : Ret 42 [.pointer (some ⟨b, 0, none⟩)] w (.string (mkS l)) :=
  (Buffer_String b b l w h).mono fun e w' ⟨he, n, hn⟩ => ⟨he, by rw [hn]; exact keeps_drewN w n⟩
theorem Buf.bytes {b : Nat} {l : List UInt8} {w : World} (h : Buf b l w) :
    Calls prog 177 ⟨[.pointer (some ⟨b, 0, none⟩)]⟩ w fun e w' => ∃ p n c, e = .returned (.slice p n c) ∧ n = l.length ∧ ReadsB w' p l ∧ (p = none → c = 0) ∧ Keeps w w' := by
  refine (Buffer_Bytes b b (bc l) w h).mono ?_
  rintro e w' ⟨v, rfl, ho, n, hn⟩
  obtain ⟨p, c, rfl⟩ := slice_of_owns ho
  have hown : Own b w' p (bc l).length c l := ⟨ho, bc_length l⟩
  refine ⟨p, _, c, rfl, bc_length l, hown.reads, fun hp => ?_, by rw [hn]; exact keeps_drewN w n⟩
  rcases ho.2 with ⟨hv, _⟩ | ⟨g, cap, cur, hv, _⟩
  · simp only [Value.slice.injEq] at hv; exact hv.2.2
  · simp only [Value.slice.injEq] at hv; rw [hp] at hv; cases hv.1
def htmlB (i : Nat) : Bool := decide (32 ≤ i) && !(i == 34 || i == 92 || i == 60 || i == 62 || i == 38)
def safeB (i : Nat) : Bool := decide (32 ≤ i) && !(i == 34 || i == 92)
theorem rune_big (a : UInt8) (r : List UInt8) (ha : 128 ≤ a.toNat) (h : (runeF (a :: r)).1 ≠ 0) : 2 ≤ (runeF (a :: r)).1 ∧ 128 ≤ (runeF (a :: r)).2 := by
  rw [runeF, if_neg (by omega)] at h ⊢
  have hl : (lead a.toNat).1 = 0 ∨ (2 ≤ (lead a.toNat).1 ∧ 128 ≤ (lead a.toNat).2.2) := by
    unfold lead
    repeat' split
    all_goals simp
  generalize (lead a.toNat).1 = n at *
  generalize (lead a.toNat).2.1 = c at *
  generalize (lead a.toNat).2.2 = q at *
  unfold tailF at h ⊢
  split at h
  · exact absurd rfl h
  · rename_i hn
    rw [if_neg hn]
    split at h
    · rename_i hall
      rw [if_pos hall]
      split at h
      · rename_i hok
        rw [if_pos hok]
        unfold okC at hok
        simp only [Bool.and_eq_true, decide_eq_true_eq] at hok
        exact ⟨by omega, by omega⟩
      · exact absurd rfl h
    · exact absurd rfl h
theorem drop_cons {s : List UInt8} {i : Nat} {b : UInt8} (h : s[i]? = some b) : s.drop i = b :: s.drop (i + 1) := by
  obtain ⟨hlt, he⟩ := List.getElem?_eq_some_iff.1 h
  rw [List.drop_eq_getElem_cons hlt, he]
theorem seg_step (s : List UInt8) (a i n : Nat) (h : a ≤ i) : (s.drop a).take (i + n - a) = (s.drop a).take (i - a) ++ (s.drop i).take n := by
  have e : i + n - a = (i - a) + n := by omega
  rw [e, List.take_add, List.drop_drop]
  congr 2
  congr 1
  omega
theorem hex_and15 (x : Nat) (hx : x < 256) : bits .and .u8 (x : Int) 15 = ((x % 16 : Nat) : Int) := by
  have := (bits_nat .u8 8 (by decide) (fun n h0 h1 => u8w h0 (by have : (2 : Int) ^ 8 = 256 := rfl; omega)) x 15 (by omega) (by decide)).1
  rw [show (15 : Nat) = 2 ^ 4 - 1 from rfl, Nat.and_two_pow_sub_one_eq_mod] at this
  exact this
theorem hex_and15i (x : Nat) (hx : x < 2147483648) : bits .and .i32 (x : Int) 15 = ((x % 16 : Nat) : Int) := by
  have := (bits_nat .i32 31 (by decide) (fun n h0 h1 => i32w (by omega) (by have : (2 : Int) ^ 31 = 2147483648 := rfl; omega)) x 15 (by omega) (by decide)).1
  rw [show (15 : Nat) = 2 ^ 4 - 1 from rfl, Nat.and_two_pow_sub_one_eq_mod] at this
  exact this
end Go.Proofs.Tryz
set_option linter.unusedVariables false
set_option maxRecDepth 100000
namespace Go.Proofs.Tryz
open Go.Vc
def VC122 (hi : Int) (lo : Int) (w : World) (R : RR) : Prop :=
 (0 : Int) ≤ 32 ∧ ∃ x12 : Int, Int.fdiv hi (2 ^ 32) = x12 ∧
 ∃ x14 : Int, bits .and .u64 hi 4294967295 = x14 ∧
 (0 : Int) ≤ 32 ∧ ∃ x16 : Int, Int.fdiv lo (2 ^ 32) = x16 ∧
 ∃ x18 : Int, bits .and .u64 lo 4294967295 = x18 ∧
 ∀ w1, w1 = w.alloc (.cells ⟨[.int .u64 0, .int .u64 0, .int .u64 0, .int .u64 0]⟩ 247) →
 ∃ w2, (Instr.storeAt 247 (.pointer (some ⟨w.heap.size, 0, none⟩)) (.agg ⟨[.int .u64 x12, .int .u64 x14, .int .u64 x16, .int .u64 x18]⟩)).run prog w1 = .ok () w2 ∧
 ∃ Ix : Nat → Int → Int → World → Prop, (∃ m_2, Ix m_2 0 0 w2) ∧
 ∀ m, ∀ aa : Int, ∀ x20 : Int, ∀ w3, Ix m aa x20 w3 →
 (decide (x20 < 4) = true →
 (0 : Int) ≤ 32 ∧ ∃ x24 : Int, IntKind.u64.wrap (aa * 2 ^ 32) = x24 ∧
 ((0 : Int) ≤ x20 ∧ x20 < (4 : Int)) ∧
 ∃ x27 : Int, w3.cell? ((⟨w.heap.size, 0, none⟩ : Addr).add (x20.toNat * 1)) = some (.int .u64 x27) ∧
 ∃ x28 : Int, bits .or .u64 x24 x27 = x28 ∧
 (10 : Int) ≠ 0 ∧ ∃ x31 : Int, IntKind.u64.wrap (Int.tdiv x28 10) = x31 ∧
 (10 : Int) ≠ 0 ∧ ∃ x33 : Int, Int.tmod x28 10 = x33 ∧
 ((0 : Int) ≤ x20 ∧ x20 < (4 : Int)) ∧
 CanStore w3 ((⟨w.heap.size, 0, none⟩ : Addr).add (x20.toNat * 1)) (.int .u64 x31) ∧ ∀ w4, w4 = w3.setCell ((⟨w.heap.size, 0, none⟩ : Addr).add (x20.toNat * 1)) (.int .u64 x31) →
 ∃ x35 : Int, IntKind.i64.wrap (x20 + 1) = x35 ∧
 ∃ m_1, m_1 < m ∧ Ix m_1 x33 x35 w4) ∧ (decide (x20 < 4) = false →
 ((0 : Int) ≤ 0 ∧ 0 < (4 : Int)) ∧
 ∃ x37 : Int, w3.drew.cell? ⟨w.heap.size, 0, none⟩ = some (.int .u64 x37) ∧
 (0 : Int) ≤ 32 ∧ ∃ x38 : Int, IntKind.u64.wrap (x37 * 2 ^ 32) = x38 ∧
 ((0 : Int) ≤ 1 ∧ 1 < (4 : Int)) ∧
 ∃ x40 : Int, w3.drew.cell? ⟨w.heap.size, 1, none⟩ = some (.int .u64 x40) ∧
 ∃ x41 : Int, bits .or .u64 x38 x40 = x41 ∧
 ((0 : Int) ≤ 2 ∧ 2 < (4 : Int)) ∧
 ∃ x43 : Int, w3.drew.cell? ⟨w.heap.size, 2, none⟩ = some (.int .u64 x43) ∧
 (0 : Int) ≤ 32 ∧ ∃ x44 : Int, IntKind.u64.wrap (x43 * 2 ^ 32) = x44 ∧
 ((0 : Int) ≤ 3 ∧ 3 < (4 : Int)) ∧
 ∃ x46 : Int, w3.drew.cell? ⟨w.heap.size, 3, none⟩ = some (.int .u64 x46) ∧
 ∃ x47 : Int, bits .or .u64 x44 x46 = x47 ∧
 ∃ x49 : Int, IntKind.u8.wrap aa = x49 ∧
 R (.tuple ⟨[.int .u64 x41, .int .u64 x47, .int .u8 x49]⟩) w3.drew)
def an122 : Ann :=
 .k .z
 (.k .z
 (.k .z
 (.k (.k .z
 (.block (.loop [(8, .int .u64), (20, .int .i64)] [7] (.k .z
 (.k (.cond 1 2 .l .l)
 (.k (.block (.k .z
 (.k (.t [.q, .q, .q, .q, .s [.int .u64]])
 .z)))
 .z))))))
 (.k (.reg (.loads (.take 0 (.q) (.take 1 (.s [.int .u64]) (.take 2 (.q) (.take 3 (.q) (.take 4 (.s [.int .u64]) (.take 5 (.q) (.take 6 (.q) (.take 7 (.s [.int .u64]) (.take 8 (.q) (.take 9 (.q) (.take 10 (.s [.int .u64]) (.take 11 (.q) (.take 12 (.q) (.take 13 (.q) (.take 14 (.q) (.take 15 (.q) (.take 16 (.q) .done)))))))))))))))))))
 .l))))
theorem c122 (hi : Int) (lo : Int) (w : World) (R : RR) (hvc : VC122 hi lo w R) : CR 122 [.int .u64 hi, .int .u64 lo] w R :=
 vcc (fn := f122) (ann := an122) hvc (by kernel_rfl) (by kernel_rfl)
def VC66 (hi : Int) (lo : Int) (w : World) (R : RR) : Prop :=
 ∀ Kx : World → Prop, (∀ w1,
 (∃ Ix : Nat → Int → Int → Ptr → Nat → Nat → World → Prop, (∃ m_2, Ix m_2 hi lo none 0 0 w1) ∧
 ∀ m, ∀ aa : Int, ∀ ab : Int, ∀ (out : Ptr) (af ag : Nat), ∀ w2, Ix m aa ab out af ag w2 →
 ∀ ac : World → Prop, (∀ w3,
 (Calls prog 122 ⟨[.int .u64 aa, .int .u64 ab]⟩ w3 fun e w4 => ∃ x22 ad ae : Int, e = .returned (.tuple ⟨[.int .u64 x22, .int .u64 ad, .int .u8 ae]⟩) ∧
 ∃ x27 : Int, IntKind.u8.wrap (48 + ae) = x27 ∧
 ∀ w5, w5 = w4.alloc (.cells ⟨[.int .u8 x27]⟩ 5) →
 ∃ (x30 : Ptr) (ah ai : Nat), ∃ w6, BuiltinOk prog .append #[23, 23] 23 [false, false] [.slice (some (⟨w4.heap.size, 0, none⟩)) 1 1, .slice out af ag] w5 (.slice x30 ah ai) w6 ∧
 ∃ m_1, m_1 < m ∧ Ix m_1 x22 ad x30 ah ai w6) → ac w3) →
 ((!decide (aa = 0)) = true →
 ac w2) ∧ ((!decide (aa = 0)) = false →
 ((!decide (ab = 0)) = true →
 ac w2) ∧ ((!decide (ab = 0)) = false →
 ∃ x32 : Bs, ∃ w7, (convert 23 9 (.slice out af ag)).run prog w2 = .ok (.string (mkS x32)) w7 ∧
 R (.string (mkS x32)) w7))) → Kx w1) →
 (decide (hi = 0) = true →
 (decide (lo = 0) = true →
 R (.string (mkS [48])) w) ∧ (decide (lo = 0) = false →
 Kx w)) ∧ (decide (hi = 0) = false →
 Kx w)
def an66 : Ann :=
 .k .z
 (.cut [] [0, 1] (.k (.t [.q, .q, .q, .gs .n 5 6])
 (.on 6 (.no .l) (.cond 7 8 .zl .l)))
 (.k .z
 (.k (.block (.loop [(0, .int .u64), (1, .int .u64), (5, .slice)] [] (.cut [] [0, 1, 5] (.k (.t [.q, .q, .q, .gs .n 1 2])
 (.on 2 (.cond 3 4 .l .l) (.yes .l)))
 (.block (.k .z
 (.k (.t [.q, .q, .s [.int .u64, .int .u64, .int .u8]])
 (.t [.q, .q, .q, .q, .s [.slice]])))))))
 (.k (.t [.q, .s [.str]])
 .l))))
theorem c66 (hi : Int) (lo : Int) (w : World) (R : RR) (hvc : VC66 hi lo w R) : CR 66 [.int .u64 hi, .int .u64 lo] w R :=
 vcc (fn := f66) (ann := an66) hvc (by kernel_rfl) (by kernel_rfl)
def VC38 (hi : Int) (lo : Int) (w : World) (R : RR) : Prop :=
 ∀ w1, w1 = w.alloc (.cells ⟨[.int .i64 0, .bool false, .string (mkS []), .int .i64 0]⟩ 64) →
 (0 : Int) ≤ 63 ∧ ∃ x7 : Int, Int.fdiv hi (2 ^ 63) = x7 ∧
 ∀ w2, w2 = w1.alloc (.cells ⟨[.int .i64 0, .bool false, .string (mkS []), .int .i64 0]⟩ 64) →
 ∃ w3, (Instr.storeAt 64 (.pointer (some ⟨w1.heap.size, 0, none⟩)) (.agg ⟨[.int .i64 0, .bool (decide (x7 = 1)), .string (mkS []), .int .i64 0]⟩)).run prog w2 = .ok () w3 ∧
 (0 : Int) ≤ 58 ∧ ∃ x11 : Int, Int.fdiv hi (2 ^ 58) = x11 ∧
 ∃ x12 : Int, bits .and .u64 x11 31 = x12 ∧
 (decide (x12 = 30) = true →
 CanStore w3 ⟨w1.heap.size, 0, none⟩ (.int .i64 1) ∧ ∀ w4, w4 = w3.setCell ⟨w1.heap.size, 0, none⟩ (.int .i64 1) →
 ∃ x16 : Int, ∃ aa : Bool, ∃ ab : Bs, ∃ ac : Int, LoadsRow prog 64 w4 ⟨w1.heap.size, 0, none⟩ [.int .i64 x16, .bool aa, .string (mkS ab), .int .i64 ac] ∧
 ∃ w5, (Instr.storeAt 64 (.pointer (some ⟨w.heap.size, 0, none⟩)) (.agg ⟨[.int .i64 x16, .bool aa, .string (mkS ab), .int .i64 ac]⟩)).run prog w4 = .ok () w5 ∧
 ∃ r : List Value, LoadsRow prog 64 w5 ⟨w.heap.size, 0, none⟩ r ∧ R (.agg ⟨r⟩) w5) ∧ (decide (x12 = 30) = false →
 (decide (x12 = 31) = true →
 CanStore w3 ⟨w1.heap.size, 0, none⟩ (.int .i64 2) ∧ ∀ w6, w6 = w3.setCell ⟨w1.heap.size, 0, none⟩ (.int .i64 2) →
 ∃ x20 : Int, ∃ ad : Bool, ∃ ae : Bs, ∃ af : Int, LoadsRow prog 64 w6 ⟨w1.heap.size, 0, none⟩ [.int .i64 x20, .bool ad, .string (mkS ae), .int .i64 af] ∧
 ∃ w7, (Instr.storeAt 64 (.pointer (some ⟨w.heap.size, 0, none⟩)) (.agg ⟨[.int .i64 x20, .bool ad, .string (mkS ae), .int .i64 af]⟩)).run prog w6 = .ok () w7 ∧
 ∃ r_1 : List Value, LoadsRow prog 64 w7 ⟨w.heap.size, 0, none⟩ r_1 ∧ R (.agg ⟨r_1⟩) w7) ∧ (decide (x12 = 31) = false →
 (0 : Int) ≤ 61 ∧ ∃ x22 : Int, Int.fdiv hi (2 ^ 61) = x22 ∧
 ∃ x23 : Int, bits .and .u64 x22 3 = x23 ∧
 (decide (x23 = 3) = true →
 (0 : Int) ≤ 47 ∧ ∃ x26 : Int, Int.fdiv hi (2 ^ 47) = x26 ∧
 ∃ x27 : Int, bits .and .u64 x26 16383 = x27 ∧
 ∃ x28 : Int, IntKind.i64.wrap x27 = x28 ∧
 ∃ x29 : Int, IntKind.i64.wrap (x28 + (-6176)) = x29 ∧
 CanStore w3 ⟨w1.heap.size, 2, none⟩ (.string (mkS [48])) ∧ ∀ w8, w8 = w3.setCell ⟨w1.heap.size, 2, none⟩ (.string (mkS [48])) →
 CanStore w8 ⟨w1.heap.size, 3, none⟩ (.int .i64 x29) ∧ ∀ w9, w9 = w8.setCell ⟨w1.heap.size, 3, none⟩ (.int .i64 x29) →
 ∃ x32 : Int, ∃ ag : Bool, ∃ ah : Bs, ∃ ai : Int, LoadsRow prog 64 w9 ⟨w1.heap.size, 0, none⟩ [.int .i64 x32, .bool ag, .string (mkS ah), .int .i64 ai] ∧
 ∃ w10, (Instr.storeAt 64 (.pointer (some ⟨w.heap.size, 0, none⟩)) (.agg ⟨[.int .i64 x32, .bool ag, .string (mkS ah), .int .i64 ai]⟩)).run prog w9 = .ok () w10 ∧
 ∃ r_2 : List Value, LoadsRow prog 64 w10 ⟨w.heap.size, 0, none⟩ r_2 ∧ R (.agg ⟨r_2⟩) w10) ∧ (decide (x23 = 3) = false →
 ∃ x34 : Int, bits .and .u64 hi 562949953421311 = x34 ∧
 Calls prog 66 ⟨[.int .u64 x34, .int .u64 lo]⟩ w3 fun e w11 => ∃ x36 : Bs, e = .returned (.string (mkS x36)) ∧
 (0 : Int) ≤ 49 ∧ ∃ x38 : Int, Int.fdiv hi (2 ^ 49) = x38 ∧
 ∃ x39 : Int, bits .and .u64 x38 16383 = x39 ∧
 ∃ x40 : Int, IntKind.i64.wrap x39 = x40 ∧
 ∃ x41 : Int, IntKind.i64.wrap (x40 + (-6176)) = x41 ∧
 CanStore w11 ⟨w1.heap.size, 2, none⟩ (.string (mkS x36)) ∧ ∀ w12, w12 = w11.setCell ⟨w1.heap.size, 2, none⟩ (.string (mkS x36)) →
 CanStore w12 ⟨w1.heap.size, 3, none⟩ (.int .i64 x41) ∧ ∀ w13, w13 = w12.setCell ⟨w1.heap.size, 3, none⟩ (.int .i64 x41) →
 ∃ x44 : Int, ∃ aj : Bool, ∃ ak : Bs, ∃ al : Int, LoadsRow prog 64 w13 ⟨w1.heap.size, 0, none⟩ [.int .i64 x44, .bool aj, .string (mkS ak), .int .i64 al] ∧
 ∃ w14, (Instr.storeAt 64 (.pointer (some ⟨w.heap.size, 0, none⟩)) (.agg ⟨[.int .i64 x44, .bool aj, .string (mkS ak), .int .i64 al]⟩)).run prog w13 = .ok () w14 ∧
 ∃ r_3 : List Value, LoadsRow prog 64 w14 ⟨w.heap.size, 0, none⟩ r_3 ∧ R (.agg ⟨r_3⟩) w14)))
def an38 : Ann :=
 .k .z
 (.k .z
 (.k (.k .z
 (.block (.k .z
 (.cond 1 2 (.k .z
 (.k (.t [.s [.int .i64, .bool, .str, .int .i64]])
 .l)) (.k .z
 (.cond 3 4 (.k .z
 (.k (.t [.s [.int .i64, .bool, .str, .int .i64]])
 .l)) .l))))))
 (.k (.k .z
 (.cond 5 6 (.k .z
 (.k (.t [.s [.int .i64, .bool, .str, .int .i64]])
 .l)) .l))
 (.k (.t [.q, .q, .q, .s [.str]])
 (.k (.t [.s [.int .i64, .bool, .str, .int .i64]])
 .l)))))
theorem c38 (hi : Int) (lo : Int) (w : World) (R : RR) (hvc : VC38 hi lo w R) : CR 38 [.int .u64 hi, .int .u64 lo] w R :=
 vcc (fn := f38) (ann := an38) hvc (by kernel_rfl) (by kernel_rfl)
def VC111 (ac : Int) (ad : Bool) (ae : Bs) (af : Int) (w : World) (R : RR) : Prop :=
 ∀ w1, w1 = w.alloc (.cells ⟨[.int .i64 ac, .bool ad, .string (mkS ae), .int .i64 af]⟩ 64) →
 ∃ x5 : Int, w1.cell? ⟨w.heap.size, 0, none⟩ = some (.int .i64 x5) ∧
 ((!decide (x5 = 0)) = true →
 ∃ x8 : Int, w1.cell? ⟨w.heap.size, 0, none⟩ = some (.int .i64 x8) ∧
 (decide (x8 = 1) = true →
 R (.bool true) w1) ∧ (decide (x8 = 1) = false →
 ∃ x12 : Int, w1.cell? ⟨w.heap.size, 0, none⟩ = some (.int .i64 x12) ∧
 R (.bool (decide (x12 = 2))) w1)) ∧ ((!decide (x5 = 0)) = false →
 ∀ Kx : World → Prop, (∀ w2,
 (∃ Ix : Nat → Int → World → Prop, (∃ m_2, Ix m_2 0 w2) ∧
 ∀ m, ∀ i : Int, ∀ w3, Ix m i w3 →
 ∃ x49 : Bs, w3.cell? ⟨w.heap.size, 2, none⟩ = some (.string (mkS x49)) ∧
 (decide (i < (x49.length : Int)) = true →
 ∃ x55 : Bs, w3.cell? ⟨w.heap.size, 2, none⟩ = some (.string (mkS x55)) ∧
 ∃ x57 : UInt8, ((0 : Int) ≤ i ∧ x55[i.toNat]? = some x57) ∧
 (decide ((x57.toNat : Int) < 48) = true →
 R (.bool false) w3) ∧ (decide ((x57.toNat : Int) < 48) = false →
 ∃ x61 : Bs, w3.cell? ⟨w.heap.size, 2, none⟩ = some (.string (mkS x61)) ∧
 ∃ x63 : UInt8, ((0 : Int) ≤ i ∧ x61[i.toNat]? = some x63) ∧
 (decide (57 < (x63.toNat : Int)) = true →
 R (.bool false) w3) ∧ (decide (57 < (x63.toNat : Int)) = false →
 ∃ x53 : Int, IntKind.i64.wrap (i + 1) = x53 ∧
 ∃ m_1, m_1 < m ∧ Ix m_1 x53 w3))) ∧ (decide (i < (x49.length : Int)) = false →
 R (.bool true) w3)) → Kx w2) →
 ∃ x16 : Bs, w1.cell? ⟨w.heap.size, 2, none⟩ = some (.string (mkS x16)) ∧
 (decide ((x16.length : Int) < 1) = true →
 R (.bool false) w1) ∧ (decide ((x16.length : Int) < 1) = false →
 ∃ x21 : Bs, w1.cell? ⟨w.heap.size, 2, none⟩ = some (.string (mkS x21)) ∧
 (decide (34 < (x21.length : Int)) = true →
 R (.bool false) w1) ∧ (decide (34 < (x21.length : Int)) = false →
 ∃ x27 : Bs, w1.cell? ⟨w.heap.size, 2, none⟩ = some (.string (mkS x27)) ∧
 (decide (1 < (x27.length : Int)) = true →
 ∃ x32 : Bs, w1.cell? ⟨w.heap.size, 2, none⟩ = some (.string (mkS x32)) ∧
 ∃ x33 : UInt8, ((0 : Int) ≤ 0 ∧ x32[0]? = some x33) ∧
 (decide ((x33.toNat : Int) = 48) = true →
 R (.bool false) w1) ∧ (decide ((x33.toNat : Int) = 48) = false →
 ∃ x39 : Int, w1.cell? ⟨w.heap.size, 3, none⟩ = some (.int .i64 x39) ∧
 (decide (x39 < (-6176)) = true →
 R (.bool false) w1) ∧ (decide (x39 < (-6176)) = false →
 ∃ x44 : Int, w1.cell? ⟨w.heap.size, 3, none⟩ = some (.int .i64 x44) ∧
 (decide (6111 < x44) = true →
 R (.bool false) w1) ∧ (decide (6111 < x44) = false →
 Kx w1)))) ∧ (decide (1 < (x27.length : Int)) = false →
 ∃ aa : Int, w1.cell? ⟨w.heap.size, 3, none⟩ = some (.int .i64 aa) ∧
 (decide (aa < (-6176)) = true →
 R (.bool false) w1) ∧ (decide (aa < (-6176)) = false →
 ∃ ab : Int, w1.cell? ⟨w.heap.size, 3, none⟩ = some (.int .i64 ab) ∧
 (decide (6111 < ab) = true →
 R (.bool false) w1) ∧ (decide (6111 < ab) = false →
 Kx w1))))))
def an111 : Ann :=
 .k .z
 (.k (.k (.t [.q, .s [.int .i64]])
 (.cond 1 2 (.k (.t [.q, .s [.int .i64], .q, .q, .gs .n 3 4, .on 4 (.s [.int .i64]) (.q)])
 .l) .l))
 (.cut [] [1] (.k (.t [.q, .s [.str], .q, .q, .q, .gs .n 11 12, .on 12 (.s [.str]) (.q), .q, .q, .q, .q, .on 12 (.gs .n 13 14) (.q), .on 14 (.s [.str]) (.q), .q, .q, .q, .on 14 (.gs .n 15 16) (.q), .on 15 (.s [.str]) (.q), .q, .q, .q, .q, .q, .on 15 (.gs .n 17 18) (.q), .on 16 (.s [.int .i64]) (.on 18 (.s [.int .i64]) (.q)), .q, .q, .q, .on 16 (.gs .n 19 20) (.on 18 (.gs .n 19 20) (.q)), .on 20 (.s [.int .i64]) (.q)])
 (.on 20 (.cond 21 22 .zl .l) (.yes .zl)))
 (.k (.k .z
 (.block (.loop [(3, .int .i64)] [1] (.k (.k (.t [.q, .q, .s [.str]])
 (.cond 5 6 .l .l))
 (.k (.block (.k (.t [.q, .s [.str], .q, .q, .q, .q, .gs .n 7 8, .on 8 (.s [.str]) (.q)])
 (.on 8 (.cond 9 10 .zl .l) (.yes .zl))))
 .z)))))
 .zl)))
theorem c111 (aa : Int) (ab : Bool) (ac : Bs) (ad : Int) (w : World) (R : RR) (hvc : VC111 aa ab ac ad w R) : CR 111 [.agg ⟨[.int .i64 aa, .bool ab, .string (mkS ac), .int .i64 ad]⟩] w R :=
 vcc (fn := f111) (ann := an111) hvc (by kernel_rfl) (by kernel_rfl)
def VC169 (hi : Int) (lo : Int) (ab : Int) (w : World) (R : RR) : Prop :=
 ∃ x14 : Int, bits .and .u64 lo 4294967295 = x14 ∧
 (0 : Int) ≤ 32 ∧ ∃ x16 : Int, Int.fdiv lo (2 ^ 32) = x16 ∧
 ∃ x18 : Int, bits .and .u64 hi 4294967295 = x18 ∧
 (0 : Int) ≤ 32 ∧ ∃ x20 : Int, Int.fdiv hi (2 ^ 32) = x20 ∧
 ∀ w1, w1 = w.alloc (.cells ⟨[.int .u64 0, .int .u64 0, .int .u64 0, .int .u64 0]⟩ 247) →
 ∃ w2, (Instr.storeAt 247 (.pointer (some ⟨w.heap.size, 0, none⟩)) (.agg ⟨[.int .u64 x14, .int .u64 x16, .int .u64 x18, .int .u64 x20]⟩)).run prog w1 = .ok () w2 ∧
 ∃ Ix : Nat → Int → Int → World → Prop, (∃ m_2, Ix m_2 ab 0 w2) ∧
 ∀ m, ∀ aa : Int, ∀ x23 : Int, ∀ w3, Ix m aa x23 w3 →
 (decide (x23 < 4) = true →
 ((0 : Int) ≤ x23 ∧ x23 < (4 : Int)) ∧
 ∃ x28 : Int, w3.cell? ((⟨w.heap.size, 0, none⟩ : Addr).add (x23.toNat * 1)) = some (.int .u64 x28) ∧
 ∃ x29 : Int, IntKind.u64.wrap (x28 * 10) = x29 ∧
 ∃ x31 : Int, IntKind.u64.wrap (x29 + aa) = x31 ∧
 ∃ x34 : Int, bits .and .u64 x31 4294967295 = x34 ∧
 (0 : Int) ≤ 32 ∧ ∃ x36 : Int, Int.fdiv x31 (2 ^ 32) = x36 ∧
 ((0 : Int) ≤ x23 ∧ x23 < (4 : Int)) ∧
 CanStore w3 ((⟨w.heap.size, 0, none⟩ : Addr).add (x23.toNat * 1)) (.int .u64 x34) ∧ ∀ w4, w4 = w3.setCell ((⟨w.heap.size, 0, none⟩ : Addr).add (x23.toNat * 1)) (.int .u64 x34) →
 ∃ x38 : Int, IntKind.i64.wrap (x23 + 1) = x38 ∧
 ∃ m_1, m_1 < m ∧ Ix m_1 x36 x38 w4) ∧ (decide (x23 < 4) = false →
 ((0 : Int) ≤ 2 ∧ 2 < (4 : Int)) ∧
 ∃ x40 : Int, w3.drew.cell? ⟨w.heap.size, 2, none⟩ = some (.int .u64 x40) ∧
 ((0 : Int) ≤ 3 ∧ 3 < (4 : Int)) ∧
 ∃ x42 : Int, w3.drew.cell? ⟨w.heap.size, 3, none⟩ = some (.int .u64 x42) ∧
 (0 : Int) ≤ 32 ∧ ∃ x43 : Int, IntKind.u64.wrap (x42 * 2 ^ 32) = x43 ∧
 ∃ x44 : Int, bits .or .u64 x40 x43 = x44 ∧
 ((0 : Int) ≤ 0 ∧ 0 < (4 : Int)) ∧
 ∃ x46 : Int, w3.drew.cell? ⟨w.heap.size, 0, none⟩ = some (.int .u64 x46) ∧
 ((0 : Int) ≤ 1 ∧ 1 < (4 : Int)) ∧
 ∃ x48 : Int, w3.drew.cell? ⟨w.heap.size, 1, none⟩ = some (.int .u64 x48) ∧
 (0 : Int) ≤ 32 ∧ ∃ x49 : Int, IntKind.u64.wrap (x48 * 2 ^ 32) = x49 ∧
 ∃ x50 : Int, bits .or .u64 x46 x49 = x50 ∧
 R (.tuple ⟨[.int .u64 x44, .int .u64 x50, .bool (decide (aa = 0))]⟩) w3.drew)
def an169 : Ann :=
 .k .z
 (.k .z
 (.k .z
 (.k (.k .z
 (.block (.loop [(10, .int .u64), (23, .int .i64)] [9] (.k .z
 (.k (.cond 1 2 .l .l)
 (.k (.block (.k .z
 (.k (.t [.q, .q, .s [.int .u64]])
 .z)))
 .z))))))
 (.k (.reg (.loads (.take 0 (.q) (.take 1 (.s [.int .u64]) (.take 2 (.q) (.take 3 (.s [.int .u64]) (.take 4 (.q) (.take 5 (.q) (.take 6 (.q) (.take 7 (.s [.int .u64]) (.take 8 (.q) (.take 9 (.s [.int .u64]) (.take 10 (.q) (.take 11 (.q) (.take 12 (.q) (.take 13 (.q) (.take 14 (.q) (.take 15 (.q) (.take 16 (.q) .done)))))))))))))))))))
 .l))))
theorem c169 (hi : Int) (lo : Int) (aa : Int) (w : World) (R : RR) (hvc : VC169 hi lo aa w R) : CR 169 [.int .u64 hi, .int .u64 lo, .int .u64 aa] w R :=
 vcc (fn := f169) (ann := an169) hvc (by kernel_rfl) (by kernel_rfl)
def VC112 (ad : Int) (ae : Bool) (af : Bs) (ag : Int) (w : World) (R : RR) : Prop :=
 ∀ w1, w1 = w.alloc (.cells ⟨[.int .i64 ad, .bool ae, .string (mkS af), .int .i64 ag]⟩ 64) →
 ∀ Kx : Int → World → Prop, (∀ aa : Int, ∀ w2,
 (∃ x11 : Int, w2.cell? ⟨w.heap.size, 0, none⟩ = some (.int .i64 x11) ∧
 (decide (x11 = 1) = true →
 ∃ x15 : Int, bits .or .u64 aa 8646911284551352320 = x15 ∧
 R (.tuple ⟨[.int .u64 x15, .int .u64 0]⟩) w2) ∧ (decide (x11 = 1) = false →
 (decide (x11 = 2) = true →
 R (.tuple ⟨[.int .u64 8935141660703064064, .int .u64 0]⟩) w2) ∧ (decide (x11 = 2) = false →
 ∃ Ix : Nat → Int → Int → Int → World → Prop, (∃ m_2, Ix m_2 0 0 0 w2) ∧
 ∀ m, ∀ hi : Int, ∀ lo : Int, ∀ i : Int, ∀ w3, Ix m hi lo i w3 →
 ∃ x20 : Bs, w3.cell? ⟨w.heap.size, 2, none⟩ = some (.string (mkS x20)) ∧
 (decide (i < (x20.length : Int)) = true →
 ∃ x29 : Bs, w3.cell? ⟨w.heap.size, 2, none⟩ = some (.string (mkS x29)) ∧
 ∃ x31 : UInt8, ((0 : Int) ≤ i ∧ x29[i.toNat]? = some x31) ∧
 ∃ x32 : Int, IntKind.u8.wrap ((x31.toNat : Int) - 48) = x32 ∧
 ∃ x33 : Int, IntKind.u64.wrap x32 = x33 ∧
 Calls prog 169 ⟨[.int .u64 hi, .int .u64 lo, .int .u64 x33]⟩ w3 fun e w4 => ∃ x34 ab : Int, ∃ ac : Bool, e = .returned (.tuple ⟨[.int .u64 x34, .int .u64 ab, .bool ac]⟩) ∧
 ∃ x24 : Int, IntKind.i64.wrap (i + 1) = x24 ∧
 ∃ m_1, m_1 < m ∧ Ix m_1 x34 ab x24 w4) ∧ (decide (i < (x20.length : Int)) = false →
 ∃ x40 : Int, w3.cell? ⟨w.heap.size, 3, none⟩ = some (.int .i64 x40) ∧
 ∃ x41 : Int, IntKind.i64.wrap (x40 - (-6176)) = x41 ∧
 ∃ x42 : Int, IntKind.u64.wrap x41 = x42 ∧
 (0 : Int) ≤ 49 ∧ ∃ x43 : Int, IntKind.u64.wrap (x42 * 2 ^ 49) = x43 ∧
 ∃ x44 : Int, bits .or .u64 aa x43 = x44 ∧
 ∃ x46 : Int, bits .or .u64 x44 hi = x46 ∧
 R (.tuple ⟨[.int .u64 x46, .int .u64 lo]⟩) w3)))) → Kx aa w2) →
 ∃ x9 : Bool, w1.cell? ⟨w.heap.size, 1, none⟩ = some (.bool x9) ∧
 (x9 = true →
 Kx 9223372036854775808 w1) ∧ (x9 = false →
 Kx 0 w1)
def an112 : Ann :=
 .k .z
 (.k .z
 (.cut [(4, .int .u64)] [1] (.k (.t [.q, .s [.bool]])
 (.cond 7 8 .z .l))
 (.k (.k (.t [.q, .s [.int .i64]])
 (.block (.k .z
 (.cond 1 2 .zl (.k .z
 (.cond 3 4 .zl .l))))))
 (.k .z
 (.k (.k .z
 (.block (.loop [(5, .int .u64), (6, .int .u64), (7, .int .i64)] [1, 4] (.k (.k (.t [.q, .q, .s [.str]])
 (.cond 5 6 .l .l))
 (.k (.block (.t [.q, .q, .q, .s [.str], .q, .q, .q, .q, .s [.int .u64, .int .u64, .bool]]))
 .z)))))
 (.k (.t [.q, .q, .s [.int .i64]])
 .l))))))
theorem c112 (aa : Int) (ab : Bool) (ac : Bs) (ad : Int) (w : World) (R : RR) (hvc : VC112 aa ab ac ad w R) : CR 112 [.agg ⟨[.int .i64 aa, .bool ab, .string (mkS ac), .int .i64 ad]⟩] w R :=
 vcc (fn := f112) (ann := an112) hvc (by kernel_rfl) (by kernel_rfl)
def VC65 (nx : Int) (w : World) (R : RR) : Prop :=
 (decide (nx < 0) = true →
 ∃ x6 : Int, IntKind.i64.wrap (0 - nx) = x6 ∧
 Calls prog 65 ⟨[.int .i64 x6]⟩ w fun e w1 => ∃ x7 : Bs, e = .returned (.string (mkS x7)) ∧
 [45].length + x7.length ≤ 9223372036854775807 ∧
 R (.string (mkS ([45] ++ x7))) w1) ∧ (decide (nx < 0) = false →
 (decide (nx < 10) = true →
 ∃ x12 : Int, IntKind.i64.wrap (48 + nx) = x12 ∧
 ∃ x13 : Int, IntKind.u8.wrap x12 = x13 ∧
 ∀ w2, w2 = w.alloc (.cells ⟨[.int .u8 x13]⟩ 5) →
 ∃ x15 : Bs, ∃ w3, (convert 23 9 (.slice (some (⟨w.heap.size, 0, none⟩)) 1 1)).run prog w2 = .ok (.string (mkS x15)) w3 ∧
 R (.string (mkS x15)) w3) ∧ (decide (nx < 10) = false →
 ∃ f : List (Addr × Value), Kept w f ∧
 (10 : Int) ≠ 0 ∧ ∃ x17 : Int, IntKind.i64.wrap (Int.tdiv nx 10) = x17 ∧
 (10 : Int) ≠ 0 ∧ ∃ x20 : Int, Int.tmod nx 10 = x20 ∧
 ∃ x21 : Int, IntKind.i64.wrap (48 + x20) = x21 ∧
 ∃ x22 : Int, IntKind.u8.wrap x21 = x22 ∧
 (Calls prog 65 ⟨[.int .i64 x17]⟩ w.drew fun e w4 => ∃ x18 : Bs, e = .returned (.string (mkS x18)) ∧
 ∀ w5, w5 = w4.alloc (.cells ⟨[.int .u8 x22]⟩ 5) →
 ∃ x24 : Bs, ∃ w6, (convert 23 9 (.slice (some (⟨w4.heap.size, 0, none⟩)) 1 1)).run prog w5 = .ok (.string (mkS x24)) w6 ∧
 x18.length + x24.length ≤ 9223372036854775807 ∧
 R (.string (mkS (x18 ++ x24))) w6) ∧ (∀ w7, w7 = w.drew.alloc (.cells ⟨[.int .u8 x22]⟩ 5) →
 (Calls prog 65 ⟨[.int .i64 x17]⟩ w7 fun e w8 => ∃ aa : Bs, e = .returned (.string (mkS aa)) ∧
 ∃ ab : Bs, ∃ w9, (convert 23 9 (.slice (some (⟨w.drew.heap.size, 0, none⟩)) 1 1)).run prog w8 = .ok (.string (mkS ab)) w9 ∧
 aa.length + ab.length ≤ 9223372036854775807 ∧
 R (.string (mkS (aa ++ ab))) w9) ∧ (∃ ac : Bs, ∃ w10, (convert 23 9 (.slice (some (⟨w.drew.heap.size, 0, none⟩)) 1 1)).run prog w7 = .ok (.string (mkS ac)) w10 ∧
 Calls prog 65 ⟨[.int .i64 x17]⟩ w10 fun e w11 => ∃ ad : Bs, e = .returned (.string (mkS ad)) ∧
 ad.length + ac.length ≤ 9223372036854775807 ∧
 R (.string (mkS (ad ++ ac))) w11))))
def an65 : Ann :=
 .k .z
 (.k (.k .z
 (.cond 1 2 (.k (.t [.q, .q, .s [.str]])
 .l) .l))
 (.k (.k .z
 (.cond 3 4 (.k (.t [.q, .q, .q, .q, .s [.str]])
 .l) .l))
 (.k (.reg (.held [2, 7, 8] (.take 0 (.q) (.take 1 (.q) (.take 3 (.q) (.take 4 (.q) (.take 5 (.q) (.take 6 (.q) (.run 2 (.s [.str]) (.run 7 (.q) (.run 8 (.s [.str]) (.take 9 (.q) (.take 10 (.q) .done)) .done) .done) (.run 7 (.q) (.run 2 (.s [.str]) (.run 8 (.s [.str]) (.take 9 (.q) (.take 10 (.q) .done)) .done) (.run 8 (.s [.str]) (.run 2 (.s [.str]) (.take 9 (.q) (.take 10 (.q) .done)) .done) .done)) .done))))))))))
 .l)))
theorem c65 (nx : Int) (w : World) (R : RR) (hvc : VC65 nx w R) : CR 65 [.int .i64 nx] w R :=
 vcc (fn := f65) (ann := an65) hvc (by kernel_rfl) (by kernel_rfl)
def VC37 (ad : Int) (ae : Bool) (af : Bs) (ag : Int) (w : World) (R : RR) : Prop :=
 ∀ w1, w1 = w.alloc (.cells ⟨[.int .i64 ad, .bool ae, .string (mkS af), .int .i64 ag]⟩ 64) →
 ∀ Kx : Bs → World → Prop, (∀ aa : Bs, ∀ w2,
 (∃ x11 : Int, w2.cell? ⟨w.heap.size, 0, none⟩ = some (.int .i64 x11) ∧
 (decide (x11 = 2) = true →
 R (.string (mkS [78, 97, 78])) w2) ∧ (decide (x11 = 2) = false →
 (decide (x11 = 1) = true →
 aa.length + [73, 110, 102, 105, 110, 105, 116, 121].length ≤ 9223372036854775807 ∧
 R (.string (mkS (aa ++ [73, 110, 102, 105, 110, 105, 116, 121]))) w2) ∧ (decide (x11 = 1) = false →
 ∃ x19 : Bs, w2.cell? ⟨w.heap.size, 2, none⟩ = some (.string (mkS x19)) ∧
 ∃ x21 : Int, w2.cell? ⟨w.heap.size, 3, none⟩ = some (.int .i64 x21) ∧
 ∃ x24 : Int, IntKind.i64.wrap (x21 + (x19.length : Int)) = x24 ∧
 ∃ x25 : Int, IntKind.i64.wrap (x24 - 1) = x25 ∧
 ∀ ab : Bool → World → Prop, (∀ x32 : Bool, ∀ w3,
 ((x32 = true →
 ((0 : Int) ≤ 1 ∧ 1 ≤ (x19.length : Int)) ∧
 ∀ ac : Bs → World → Prop, (∀ out : Bs, ∀ w4,
 ((decide (0 ≤ x25) = true →
 aa.length + out.length ≤ 9223372036854775807 ∧
 (aa ++ out).length + [69, 43].length ≤ 9223372036854775807 ∧
 Calls prog 65 ⟨[.int .i64 x25]⟩ w4 fun e w5 => ∃ x50 : Bs, e = .returned (.string (mkS x50)) ∧
 ((aa ++ out) ++ [69, 43]).length + x50.length ≤ 9223372036854775807 ∧
 R (.string (mkS (((aa ++ out) ++ [69, 43]) ++ x50))) w5) ∧ (decide (0 ≤ x25) = false →
 aa.length + out.length ≤ 9223372036854775807 ∧
 (aa ++ out).length + [69].length ≤ 9223372036854775807 ∧
 Calls prog 65 ⟨[.int .i64 x25]⟩ w4 fun e w6 => ∃ x57 : Bs, e = .returned (.string (mkS x57)) ∧
 ((aa ++ out) ++ [69]).length + x57.length ≤ 9223372036854775807 ∧
 R (.string (mkS (((aa ++ out) ++ [69]) ++ x57))) w6)) → ac out w4) →
 (decide (1 < (x19.length : Int)) = true →
 ((0 : Int) ≤ 1 ∧ 1 ≤ (x19.length : Int)) ∧
 [46].length + (x19.drop 1).length ≤ 9223372036854775807 ∧
 (x19.take 1).length + ([46] ++ (x19.drop 1)).length ≤ 9223372036854775807 ∧
 ac ((x19.take 1) ++ ([46] ++ (x19.drop 1))) w3) ∧ (decide (1 < (x19.length : Int)) = false →
 ac (x19.take 1) w3)) ∧ (x32 = false →
 ∃ x60 : Int, w3.cell? ⟨w.heap.size, 3, none⟩ = some (.int .i64 x60) ∧
 (decide (x60 = 0) = true →
 aa.length + x19.length ≤ 9223372036854775807 ∧
 R (.string (mkS (aa ++ x19))) w3) ∧ (decide (x60 = 0) = false →
 ∃ Ix : Nat → Bs → World → Prop, (∃ m_2, Ix m_2 x19 w3) ∧
 ∀ m, ∀ s : Bs, ∀ w7, Ix m s w7 →
 ∃ x68 : Int, w7.cell? ⟨w.heap.size, 3, none⟩ = some (.int .i64 x68) ∧
 ∃ x69 : Int, IntKind.i64.wrap (0 - x68) = x69 ∧
 (decide ((s.length : Int) ≤ x69) = true →
 [48].length + s.length ≤ 9223372036854775807 ∧
 ∃ m_1, m_1 < m ∧ Ix m_1 ([48] ++ s) w7) ∧ (decide ((s.length : Int) ≤ x69) = false →
 ∃ x76 : Int, w7.cell? ⟨w.heap.size, 3, none⟩ = some (.int .i64 x76) ∧
 ∃ x77 : Int, IntKind.i64.wrap ((s.length : Int) + x76) = x77 ∧
 (0 ≤ x77 ∧ x77 ≤ (s.length : Int)) ∧
 aa.length + (s.take x77.toNat).length ≤ 9223372036854775807 ∧
 (aa ++ (s.take x77.toNat)).length + [46].length ≤ 9223372036854775807 ∧
 (0 ≤ x77 ∧ x77 ≤ (s.length : Int)) ∧
 ((aa ++ (s.take x77.toNat)) ++ [46]).length + (s.drop x77.toNat).length ≤ 9223372036854775807 ∧
 R (.string (mkS (((aa ++ (s.take x77.toNat)) ++ [46]) ++ (s.drop x77.toNat)))) w7.drew)))) → ab x32 w3) →
 ∃ x27 : Int, w2.cell? ⟨w.heap.size, 3, none⟩ = some (.int .i64 x27) ∧
 (decide (0 < x27) = true →
 ab true w2) ∧ (decide (0 < x27) = false →
 ab (decide (x25 < (-6))) w2)))) → Kx aa w2) →
 ∃ x9 : Bool, w1.cell? ⟨w.heap.size, 1, none⟩ = some (.bool x9) ∧
 (x9 = true →
 Kx [45] w1) ∧ (x9 = false →
 Kx [] w1)
def an37 : Ann :=
 .k .z
 (.k .z
 (.cut [(3, .str)] [1] (.k (.t [.q, .s [.bool]])
 (.cond 17 18 .z .l))
 (.k (.k (.t [.q, .s [.int .i64]])
 (.block (.k .z
 (.cond 1 2 .zl (.k .z
 (.cond 3 4 .zl .l))))))
 (.k (.t [.q, .s [.str]])
 (.k (.t [.q, .s [.int .i64]])
 (.k (.cut [(32, .bool)] [1, 3, 4, 5] (.t [.q, .s [.int .i64], .q, .q, .gs .n 15 16])
 (.cond 5 6 (.k .z
 (.cut [(6, .str)] [3, 5] (.k .z
 (.cond 9 10 .z .l))
 (.k (.k .z
 (.cond 7 8 (.k (.t [.q, .q, .q, .q, .q, .s [.str]])
 .l) .l))
 (.k (.t [.q, .q, .q, .q, .q, .s [.str]])
 .l)))) .l))
 (.k (.k (.t [.q, .s [.int .i64]])
 (.cond 11 12 .zl .l))
 (.k (.block (.loop [(4, .str)] [1, 3] (.k (.k (.t [.q, .q, .q, .s [.int .i64]])
 (.cond 13 14 .l .l))
 (.block .z))))
 (.k (.t [.q, .q, .q, .s [.int .i64]])
 (.k (.reg (.loads (.take 0 (.q) (.take 1 (.q) (.take 2 (.q) (.take 3 (.q) (.take 4 (.q) (.take 5 (.q) (.take 6 (.q) (.take 7 (.q) (.take 8 (.q) (.take 9 (.q) (.take 10 (.q) .done)))))))))))))
 .l))))))))))
theorem c37 (aa : Int) (ab : Bool) (ac : Bs) (ad : Int) (w : World) (R : RR) (hvc : VC37 aa ab ac ad w R) : CR 37 [.agg ⟨[.int .i64 aa, .bool ab, .string (mkS ac), .int .i64 ad]⟩] w R :=
 vcc (fn := f37) (ann := an37) hvc (by kernel_rfl) (by kernel_rfl)
end Go.Proofs.Tryz
set_option linter.unusedVariables false
namespace Go.Proofs.Tryz
open Go.Vc Go.RowKit
theorem n247 : cellsOf' prog 247 = some 4 := by kernel_rfl
theorem n64 : cellsOf' prog 64 = some 4 := by kernel_rfl
theorem u64_mask (a j : Nat) (ha : a < 18446744073709551616) (hj : j ≤ 64) : bits .and .u64 (a : Int) ((2 ^ j - 1 : Nat) : Int) = ((a % 2 ^ j : Nat) : Int) := by
  have hp : 2 ^ j ≤ 2 ^ 64 := Nat.pow_le_pow_right (by decide) hj
  have h0 : 0 < 2 ^ j := Nat.two_pow_pos j
  rw [bits_and_u64_nat a (2 ^ j - 1) ha (by omega), Nat.and_two_pow_sub_one_eq_mod]
theorem u64_join (a b j : Nat) (ha : a < 18446744073709551616) (h : a % 2 ^ j = 0) (hb : b < 2 ^ j) (hb' : b < 18446744073709551616) : bits .or .u64 (a : Int) (b : Int) = ((a + b : Nat) : Int) := by
  rw [bits_or_u64_nat a b ha hb']
  have hq : a = 2 ^ j * (a / 2 ^ j) := by
    have := Nat.div_add_mod a (2 ^ j)
    omega
  congr 1
  rw [hq, ← Nat.two_pow_add_eq_or_of_lt hb (a / 2 ^ j)]
def limb (hi lo : Nat) : Nat → Nat
  | 0 => hi / 4294967296
  | 1 => hi % 4294967296
  | 2 => lo / 4294967296
  | _ => lo % 4294967296
def remT (hi lo : Nat) : Nat → Nat
  | 0 => 0
  | k + 1 => (remT hi lo k * 4294967296 + limb hi lo k) % 10
def quoT (hi lo k : Nat) : Nat := (remT hi lo k * 4294967296 + limb hi lo k) / 10
def cellT (L Q : Nat → Nat) (k j : Nat) : Value := .int .u64 ((if j < k then Q j else L j : Nat) : Int)
def rowT (L Q : Nat → Nat) (k : Nat) : List Value := [cellT L Q k 0, cellT L Q k 1, cellT L Q k 2, cellT L Q k 3]
def B64 : Nat := 18446744073709551616
theorem B64_pos : 0 < B64 := Nat.zero_lt_succ _
def num (hi lo : Nat) : Nat := hi * B64 + lo
theorem tenth_lo {c d q2 q3 r2 r3 r4 : Nat} (e2 : r2 * 4294967296 + c = 10 * q2 + r3) (e3 : r3 * 4294967296 + d = 10 * q3 + r4) :
    r2 * B64 + (c * 4294967296 + d) = 10 * (q2 * 4294967296 + q3) + r4 := by
  have hB : B64 = 4294967296 * 4294967296 := rfl
  rw [hB, ← Nat.mul_assoc, ← Nat.add_assoc, ← Nat.add_mul, e2, Nat.add_mul, Nat.add_assoc, e3, Nat.mul_assoc, Nat.mul_add, Nat.add_assoc]
theorem tenth_lin {hi lo P Q r2 r4 : Nat} (h1 : hi = 10 * P + r2) (h2 : r2 * B64 + lo = 10 * Q + r4) : num hi lo = 10 * (P * B64 + Q) + r4 := by
  unfold num
  rw [h1, Nat.add_mul, Nat.add_assoc, h2, Nat.mul_assoc, Nat.mul_add, Nat.add_assoc]
theorem fin_math (B N P Q r : Nat) (lin : N = 10 * (P * B + Q) + r) (hr : r < 10) (hQ : Q < B) : N / 10 / B = P ∧ N / 10 % B = Q ∧ N % 10 = r := by
  have h1 : N / 10 = P * B + Q := by omega
  have h2 : N % 10 = r := by omega
  rw [h1, h2]
  have hB : 0 < B := by omega
  refine ⟨?_, ?_, rfl⟩
  · rw [Nat.add_comm, Nat.add_mul_div_right _ _ hB, Nat.div_eq_of_lt hQ, Nat.zero_add]
  · rw [Nat.add_comm, Nat.add_mul_mod_self_right, Nat.mod_eq_of_lt hQ]
theorem tenth_hi {a b q0 q1 r1 r2 : Nat} (s0 : a = 10 * q0 + r1) (s1 : r1 * 4294967296 + b = 10 * q1 + r2) : a * 4294967296 + b = 10 * (q0 * 4294967296 + q1) + r2 := by
  rw [s0, Nat.add_mul, Nat.add_assoc, s1, Nat.mul_assoc, Nat.mul_add, Nat.add_assoc]
theorem tenth_fin {L Q R : Nat → Nat} {hi lo : Nat} (step : ∀ k, R k * 4294967296 + L k = 10 * Q k + R (k + 1)) (rl : ∀ k, R k < 10) (ll : ∀ k, L k < 4294967296) (r0 : R 0 = 0)
    (hhi : L 0 * 4294967296 + L 1 = hi) (hlo : L 2 * 4294967296 + L 3 = lo) :
    (∀ k, Q k < 4294967296) ∧ Q 0 * 4294967296 + Q 1 = num hi lo / 10 / B64 ∧ Q 2 * 4294967296 + Q 3 = num hi lo / 10 % B64 ∧ R 4 = num hi lo % 10 := by
  have ql : ∀ k, Q k < 4294967296 := fun k => by have h1 := step k; have h2 := rl k; have h3 := ll k; omega
  have s0 := step 0
  have s1 := step 1
  rw [r0, Nat.zero_mul, Nat.zero_add] at s0
  have hP : hi = 10 * (Q 0 * 4294967296 + Q 1) + R 2 := hhi.symm.trans (tenth_hi s0 s1)
  have hQ := tenth_lo (step 2) (step 3)
  rw [hlo] at hQ
  have lin := tenth_lin hP hQ
  have q2 := ql 2
  have q3 := ql 3
  have hcd : Q 2 * 4294967296 + Q 3 < B64 := by
    have : B64 = 4294967295 * 4294967296 + 4294967296 := rfl
    rw [this]; omega
  obtain ⟨a1, a2, a3⟩ := fin_math B64 (num hi lo) _ _ _ lin (rl 4) hcd
  exact ⟨ql, a1.symm, a2.symm, a3.symm⟩
theorem tenth_ex (hi lo : Nat) (h1 : hi < 18446744073709551616) (h2 : lo < 18446744073709551616) : ∃ L Q R : Nat → Nat, L 0 = hi / 4294967296 ∧ L 1 = hi % 4294967296 ∧ L 2 = lo / 4294967296 ∧ L 3 = lo % 4294967296 ∧ R 0 = 0 ∧
    (∀ k, R k * 4294967296 + L k = 10 * Q k + R (k + 1)) ∧ (∀ k, R k < 10) ∧ (∀ k, L k < 4294967296) ∧
    (∀ k, Q k < 4294967296) ∧ Q 0 * 4294967296 + Q 1 = num hi lo / 10 / B64 ∧ Q 2 * 4294967296 + Q 3 = num hi lo / 10 % B64 ∧ R 4 = num hi lo % 10 := by
  have step : ∀ k, remT hi lo k * 4294967296 + limb hi lo k = 10 * quoT hi lo k + remT hi lo (k + 1) := fun k => (Nat.div_add_mod _ 10).symm
  have rl : ∀ k, remT hi lo k < 10 := fun k => by
    cases k with
    | zero => exact Nat.zero_lt_succ 9
    | succ k => exact Nat.mod_lt _ (Nat.zero_lt_succ 9)
  have hm : ∀ a : Nat, a % 4294967296 < 4294967296 := fun a => by omega
  have hd : ∀ a : Nat, a < 18446744073709551616 → a / 4294967296 < 4294967296 := fun a h => by omega
  have hdm : ∀ a : Nat, a / 4294967296 * 4294967296 + a % 4294967296 = a := fun a => by omega
  have ll : ∀ k, limb hi lo k < 4294967296 := fun k => by
    match k with
    | 0 => exact hd hi h1
    | 1 => exact hm hi
    | 2 => exact hd lo h2
    | k + 3 => exact hm lo
  have f := tenth_fin step rl ll rfl (hdm hi) (hdm lo)
  exact ⟨limb hi lo, quoT hi lo, remT hi lo, rfl, rfl, rfl, rfl, rfl, step, rl, ll, f.1, f.2.1, f.2.2.1, f.2.2.2⟩
theorem fdiv32 (a : Nat) : Int.fdiv (a : Int) (2 ^ 32) = ((a / 4294967296 : Nat) : Int) := fdiv_nat a 32
theorem mask32 (a : Nat) (h : a < 18446744073709551616) : bits .and .u64 (a : Int) 4294967295 = ((a % 4294967296 : Nat) : Int) := u64_mask a 32 h (by decide)
theorem ret122 (hi lo : Nat) (h1 : hi < 18446744073709551616) (h2 : lo < 18446744073709551616) (w : World) :
    Ret 122 [.int .u64 (hi : Int), .int .u64 (lo : Int)] w (.tuple ⟨[.int .u64 ((num hi lo / 10 / B64 : Nat) : Int), .int .u64 ((num hi lo / 10 % B64 : Nat) : Int), .int .u8 ((num hi lo % 10 : Nat) : Int)]⟩) := by
  refine Ret.of (c122 _ _ w _ ?_)
  unfold VC122
  obtain ⟨L, Q, R, l0, l1, l2, l3, r0, step, rl, ll, ql, t1, t2, t3⟩ := tenth_ex hi lo h1 h2
  have m1 := mask32 hi h1
  have m2 := mask32 lo h2
  have f1 := fdiv32 hi
  have f2 := fdiv32 lo
  rw [← l1] at m1
  rw [← l3] at m2
  rw [← l0] at f1
  rw [← l2] at f2
  rw [← t1, ← t2, ← t3]
  clear t1 t2 t3 l0 l1 l2 l3
  refine ⟨by decide, _, f1, _, m1, by decide, _, f2, _, m2, fun w1 hw1 => ?_⟩
  obtain ⟨w2, hst, hk2, hs2, hv2⟩ := store_new (t := 247) (cs := rowT L Q 0) hw1 n247 rfl rfl rfl
  refine ⟨w2, hst, fun m left i w3 => Keeps w w3 ∧ ∃ k : Nat, i = k ∧ k ≤ 4 ∧ m = 4 - k ∧ left = (R k : Nat) ∧ Var w3 w.heap.size 247 (rowT L Q k), ⟨4, hk2, 0, rfl, by decide, rfl, by rw [r0]; rfl, hv2⟩, ?_⟩
  rintro m left i w3 ⟨hk3, k, rfl, hk4, rfl, rfl, hv3⟩
  have hrem := rl k
  refine ⟨fun h => ?_, fun h => ?_⟩
  · simp only [decide_eq_true_eq] at h
    have hklt : k < 4 := by omega
    have hlimb := ll k
    have hst := step k
    have hq := ql k
    have hr1 := rl (k + 1)
    have hcell : (rowT L Q k)[k]? = some (.int .u64 ((L k : Nat) : Int)) := by
      rcases (show k = 0 ∨ k = 1 ∨ k = 2 ∨ k = 3 by omega) with rfl | rfl | rfl | rfl <;> rfl
    have hset : (rowT L Q k).set k (.int .u64 ((Q k : Nat) : Int)) = rowT L Q (k + 1) := by
      rcases (show k = 0 ∨ k = 1 ∨ k = 2 ∨ k = 3 by omega) with rfl | rfl | rfl | rfl <;> rfl
    have ek : (k : Int).toNat * 1 = k := by simp
    rw [ek, add_at, Nat.zero_add]
    have e1 : (R k : Int) * 2 ^ 32 = ((R k * 4294967296 : Nat) : Int) := by omega
    have hj := u64_join (R k * 4294967296) (L k) 32 (by omega) (by omega) (by omega) (by omega)
    rw [hst] at hj
    have hdiv : Int.tdiv ((10 * Q k + R (k + 1) : Nat) : Int) 10 = ((Q k : Nat) : Int) := by
      rw [Int.tdiv_eq_ediv_of_nonneg (by omega)]; omega
    have hmod : Int.tmod ((10 * Q k + R (k + 1) : Nat) : Int) 10 = ((R (k + 1) : Nat) : Int) := by
      rw [Int.tmod_eq_emod_of_nonneg (by omega)]; omega
    refine ⟨by decide, ((R k * 4294967296 : Nat) : Int), by rw [e1]; exact u64w (by omega) (by omega), ⟨by omega, by omega⟩, _, hv3.lies.at k hcell (by omega), _, hj, by decide, ((Q k : Nat) : Int), by rw [hdiv]; exact u64w (by omega) (by omega), by decide, _, hmod, ⟨by omega, by omega⟩, hv3.can (by simpa [rowT] using hklt) rfl, fun w4 hw4 => ?_⟩
    refine ⟨_, i64w (by omega) (by omega), 4 - (k + 1), by omega, ?_, k + 1, by omega, by omega, rfl, rfl, ?_⟩
    · rw [hw4]; exact Below.setCell hk3 (Nat.le_refl _) _
    · rw [hw4, ← hset]; exact hv3.set k _
  · simp only [decide_eq_false_iff_not] at h
    have hk : k = 4 := by omega
    subst hk
    have c0 : w3.drew.cell? ⟨w.heap.size, 0, none⟩ = some (.int .u64 ((Q 0 : Nat) : Int)) := hv3.lies.at 0 rfl rfl
    have c1 : w3.drew.cell? ⟨w.heap.size, 1, none⟩ = some (.int .u64 ((Q 1 : Nat) : Int)) := hv3.lies.at 1 rfl rfl
    have c2 : w3.drew.cell? ⟨w.heap.size, 2, none⟩ = some (.int .u64 ((Q 2 : Nat) : Int)) := hv3.lies.at 2 rfl rfl
    have c3 : w3.drew.cell? ⟨w.heap.size, 3, none⟩ = some (.int .u64 ((Q 3 : Nat) : Int)) := hv3.lies.at 3 rfl rfl
    have q0 := ql 0
    have q1 := ql 1
    have q2 := ql 2
    have q3 := ql 3
    have e1 : (Q 0 : Int) * 2 ^ 32 = ((Q 0 * 4294967296 : Nat) : Int) := by omega
    have e2 : (Q 2 : Int) * 2 ^ 32 = ((Q 2 * 4294967296 : Nat) : Int) := by omega
    have j1 := u64_join (Q 0 * 4294967296) (Q 1) 32 (by omega) (by omega) (by omega) (by omega)
    have j2 := u64_join (Q 2 * 4294967296) (Q 3) 32 (by omega) (by omega) (by omega) (by omega)
    exact ⟨by decide, _, c0, by decide, ((Q 0 * 4294967296 : Nat) : Int), by rw [e1]; exact u64w (by omega) (by omega), by decide, _, c1, _, j1, by decide, _, c2, by decide, ((Q 2 * 4294967296 : Nat) : Int), by rw [e2]; exact u64w (by omega) (by omega), by decide, _, c3, _, j2, _, u8w (by omega) (by omega), rfl, hk3.drew⟩
def digsG : Nat → Nat → List UInt8
  | 0, _ => []
  | f + 1, n => if n = 0 then [] else digsG f (n / 10) ++ [UInt8.ofNat (48 + n % 10)]
def digs (n : Nat) : List UInt8 := digsG n n
theorem digsG_fuel : ∀ (f g n : Nat), n ≤ f → n ≤ g → digsG f n = digsG g n
  | 0, g, n, hf, hg => by
    have : n = 0 := by omega
    subst this; cases g <;> simp [digsG]
  | f + 1, 0, n, hf, hg => by
    have : n = 0 := by omega
    subst this; simp [digsG]
  | f + 1, g + 1, n, hf, hg => by
    simp only [digsG]
    split
    · rfl
    · rw [digsG_fuel f g (n / 10) (by omega) (by omega)]
theorem digs_zero : digs 0 = [] := rfl
theorem digs_step (n : Nat) (h : n ≠ 0) : digs n = digs (n / 10) ++ [UInt8.ofNat (48 + n % 10)] := by
  unfold digs
  obtain ⟨m, rfl⟩ : ∃ m, n = m + 1 := ⟨n - 1, by omega⟩
  simp only [digsG, if_neg h]
  rw [digsG_fuel m ((m + 1) / 10) _ (by omega) (Nat.le_refl _)]
theorem digs_len : ∀ (k n : Nat), (digs n).length ≤ k ↔ n < 10 ^ k
  | 0, n => by
    by_cases h : n = 0
    · subst h; simp [digs_zero]
    · rw [digs_step n h]; simp; omega
  | k + 1, n => by
    by_cases h : n = 0
    · subst h; simp [digs_zero]; exact Nat.pow_pos (by decide)
    · rw [digs_step n h, List.length_append, List.length_singleton, Nat.add_le_add_iff_right, digs_len k (n / 10), Nat.pow_succ]
      omega
def decF (n : Nat) : List UInt8 := if n = 0 then [48] else digs n
theorem num_lt {hi lo : Nat} (h1 : hi < 18446744073709551616) (h2 : lo < 18446744073709551616) : num hi lo < B64 * B64 := by
  have e1 : hi + 1 ≤ B64 := h1
  have e2 : lo < B64 := h2
  have : (hi + 1) * B64 ≤ B64 * B64 := Nat.mul_le_mul_right _ e1
  unfold num
  rw [Nat.add_mul, Nat.one_mul] at this
  omega
theorem num_split (N : Nat) : num (N / B64) (N % B64) = N := by
  unfold num; rw [Nat.mul_comm]; exact Nat.div_add_mod N B64
theorem num_zero {hi lo : Nat} : num hi lo = 0 ↔ hi = 0 ∧ lo = 0 := by
  unfold num
  constructor
  · intro h
    have h1 : hi * B64 = 0 := by omega
    rcases Nat.mul_eq_zero.1 h1 with h1 | h1
    · exact ⟨h1, by omega⟩
    · exact absurd h1 (Nat.ne_of_gt B64_pos)
  · rintro ⟨rfl, rfl⟩; simp
theorem tenth_hi_lt {N : Nat} (h : N < B64 * B64) : N / 10 / B64 < 18446744073709551616 := by
  have : N / 10 / B64 < B64 := Nat.div_lt_of_lt_mul (Nat.lt_of_le_of_lt (Nat.div_le_self _ _) h)
  exact this
theorem tenth_lo_lt (N : Nat) : N / 10 % B64 < 18446744073709551616 := Nat.mod_lt _ B64_pos
theorem Own.nilcap {B : Nat} {w : World} {p : Option Addr} {n c : Nat} {l : List UInt8} (h : Own B w p n c l) (hp : p = none) : c = 0 := by
  subst hp
  rcases h.1.2 with ⟨hv, _⟩ | ⟨g, cap, cur, hv, _⟩
  · cases hv; rfl
  · cases hv
theorem ret66 (hi lo : Nat) (h1 : hi < 18446744073709551616) (h2 : lo < 18446744073709551616) (w : World) : Ret 66 [.int .u64 (hi : Int), .int .u64 (lo : Int)] w (.string (mkS (decF (num hi lo)))) := by
  refine Ret.of (c66 _ _ w _ ?_)
  unfold VC66
  have hlt := num_lt h1 h2
  have hz := @num_zero hi lo
  have hL : (digs (num hi lo)).length ≤ 40 := (digs_len 40 _).2 (Nat.lt_of_lt_of_le hlt (by decide))
  intro Kx hK
  have key : num hi lo ≠ 0 → ∀ w1, w1 = w → Kx w1 := by
    rintro hne w1 rfl
    refine hK w1 ?_
    refine ⟨fun m h l p n c w2 => Keeps w1 w2 ∧ ∃ (a b : Nat) (acc : List UInt8), h = a ∧ l = b ∧ a < 18446744073709551616 ∧ b < 18446744073709551616 ∧ m = num a b ∧ Own w1.heap.size w2 p n c acc ∧ digs (num hi lo) = digs (num a b) ++ acc,
      ⟨num hi lo, Keeps.refl _, hi, lo, [], rfl, rfl, h1, h2, rfl, Own.nil _ _, by simp⟩, ?_⟩
    rintro m h l p n c w2 ⟨hk2, a, b, acc, rfl, rfl, ha, hb, rfl, ho, hd⟩
    intro K1 hK1
    have hacc : acc.length ≤ 40 := by have := congrArg List.length hd; rw [List.length_append] at this; omega
    have k1 : num a b ≠ 0 → K1 w2 := by
      intro hnz
      refine hK1 w2 ?_
      have hab := num_lt ha hb
      have hlt10 : num a b % 10 < 10 := Nat.mod_lt _ (by decide)
      have ea := tenth_hi_lt hab
      have eb := tenth_lo_lt (num a b)
      have esp := num_split (num a b / 10)
      have hstep := digs_step (num a b) hnz
      refine (ret122 a b ha hb w2).go fun w4 hk4 => ⟨_, _, _, rfl, ?_⟩
      have hdl : num a b / 10 < num a b := Nat.div_lt_self (Nat.pos_of_ne_zero hnz) (by decide)
      generalize num a b = M at *
      generalize M / 10 / B64 = a' at *
      generalize M / 10 % B64 = b' at *
      generalize M % 10 = r at *
      have hk4' := hk2.trans hk4
      refine ⟨_, u8w (by omega) (by omega), fun w5 hw5 => ?_⟩
      have e48 : 48 + (r : Int) = ((UInt8.ofNat (48 + r)).toNat : Int) := by rw [u8_toNat_ofNat _ (by omega)]; omega
      have hk5 : Keeps w4 w5 := by rw [hw5]; exact (Keeps.refl w4).alloc _
      have hlit : Own w1.heap.size w5 (some ⟨w4.heap.size, 0, none⟩) 1 1 [UInt8.ofNat (48 + r)] := by
        rw [hw5, e48]; exact Own.new w1.heap.size w4 [_] hk4'.size (by simp)
      have ho5 := (ho.keeps hk4).keeps hk5
      obtain ⟨p', n', c', w6, hrun, ho6, hk6, _⟩ := append_bytes' (a := w1) hlit ho5.reads ho5.len ho5.nilcap (Nat.le_refl _) (Nat.le_trans hk4'.size hk5.size) (hk4'.trans hk5) (by simp; omega) [false, false]
      refine ⟨p', n', c', w6, hrun, M / 10, hdl, hk6, a', b', _, rfl, rfl, ea, eb, esp.symm, ho6, ?_⟩
      rw [hd, hstep, esp, List.append_assoc]
    have hnz' := @num_zero a b
    refine ⟨fun hh => k1 ?_, fun hh => ⟨fun hl => k1 ?_, fun hl => ?_⟩⟩
    · simp only [Bool.not_eq_true', decide_eq_false_iff_not] at hh
      intro e; exact hh (by have := (hnz'.1 e).1; omega)
    · simp only [Bool.not_eq_true', decide_eq_false_iff_not] at hl
      intro e; exact hl (by have := (hnz'.1 e).2; omega)
    · simp only [Bool.not_eq_false', decide_eq_true_eq] at hh hl
      have e0 : num a b = 0 := hnz'.2 ⟨by omega, by omega⟩
      rw [e0, digs_zero, List.nil_append] at hd
      refine ⟨_, w2, conv_string ho.reads ho.len, ?_, hk2⟩
      unfold decF; rw [if_neg hne, hd]
  refine ⟨fun hh => ⟨fun hl => ⟨?_, Keeps.refl _⟩, fun hl => key ?_ w rfl⟩, fun hh => key ?_ w rfl⟩
  · simp only [decide_eq_true_eq] at hh hl
    have e0 : num hi lo = 0 := hz.2 ⟨by omega, by omega⟩
    unfold decF; rw [if_pos e0]
  · simp only [decide_eq_false_iff_not] at hl
    intro e; exact hl (by have := (hz.1 e).2; omega)
  · simp only [decide_eq_false_iff_not] at hh
    intro e; exact hh (by have := (hz.1 e).1; omega)
def decCells (k : Int) (neg : Bool) (ds : List UInt8) (e : Int) : List Value := [.int .i64 k, .bool neg, .string (mkS ds), .int .i64 e]
structure Dec where
  kind : Int
  neg : Bool
  ds : List UInt8
  exp : Int
def Dec.cells (d : Dec) : List Value := decCells d.kind d.neg d.ds d.exp
def decOf (hi lo : Nat) : Dec :=
  if hi / 2 ^ 58 % 32 = 30 then ⟨1, decide (hi / 2 ^ 63 = 1), [], 0⟩
  else if hi / 2 ^ 58 % 32 = 31 then ⟨2, decide (hi / 2 ^ 63 = 1), [], 0⟩
  else if hi / 2 ^ 61 % 4 = 3 then ⟨0, decide (hi / 2 ^ 63 = 1), [48], ((hi / 2 ^ 47 % 16384 : Nat) : Int) - 6176⟩
  else ⟨0, decide (hi / 2 ^ 63 = 1), decF (num (hi % 2 ^ 49) lo), ((hi / 2 ^ 49 % 16384 : Nat) : Int) - 6176⟩
theorem and31u (a : Nat) (h : a < 18446744073709551616) : bits .and .u64 (a : Int) 31 = ((a % 32 : Nat) : Int) := u64_mask a 5 h (by decide)
theorem and3u (a : Nat) (h : a < 18446744073709551616) : bits .and .u64 (a : Int) 3 = ((a % 4 : Nat) : Int) := u64_mask a 2 h (by decide)
theorem and14u (a : Nat) (h : a < 18446744073709551616) : bits .and .u64 (a : Int) 16383 = ((a % 16384 : Nat) : Int) := u64_mask a 14 h (by decide)
theorem and49u (a : Nat) (h : a < 18446744073709551616) : bits .and .u64 (a : Int) 562949953421311 = ((a % 2 ^ 49 : Nat) : Int) := u64_mask a 49 h (by decide)
theorem div_lt64 (a k : Nat) (h : a < 18446744073709551616) : a / 2 ^ k < 18446744073709551616 := Nat.lt_of_le_of_lt (Nat.div_le_self _ _) h
theorem decide_cast (a b : Nat) : decide (((a : Nat) : Int) = ((b : Nat) : Int)) = decide (a = b) := by
  rw [decide_eq_decide]; omega
theorem ret38 (hi lo : Nat) (h1 : hi < 18446744073709551616) (h2 : lo < 18446744073709551616) (w : World) : Ret 38 [.int .u64 (hi : Int), .int .u64 (lo : Int)] w (.agg ⟨(decOf hi lo).cells⟩) := by
  refine Ret.of (c38 _ _ w _ ?_)
  unfold VC38
  intro w1 hw1
  have hk1 : Keeps w w1 := by rw [hw1]; exact (Keeps.refl w).alloc _
  have hv1 : Var w1 w.heap.size 64 (decCells 0 false [] 0) := by rw [hw1]; exact var_alloc w _ 64
  have hs1 : w1.heap.size = w.heap.size + 1 := by rw [hw1]; simp
  refine ⟨by decide, _, fdiv_nat hi 63, fun w2 hw2 => ?_⟩
  have e63 : decide (((hi / 2 ^ 63 : Nat) : Int) = 1) = decide (hi / 2 ^ 63 = 1) := decide_cast _ 1
  rw [e63]
  generalize hneg : decide (hi / 2 ^ 63 = 1) = neg
  obtain ⟨w3, hst, hk3, hs3, hv3⟩ := store_new (t := 64) (cs := decCells 0 neg [] 0) hw2 n64 rfl rfl rfl
  have hv13 := hv1.keeps hk3
  have hk3' := hk1.trans hk3
  -- the end: the variable is handed back
  have fin : ∀ (w' : World) (k : Int) (ng : Bool) (ds : List UInt8) (e : Int), Keeps w w' → Var w' w.heap.size 64 (decCells 0 false [] 0) → Var w' w1.heap.size 64 (decCells k ng ds e) → decOf hi lo = ⟨k, ng, ds, e⟩ →
      ∃ x16 : Int, ∃ x16_1 : Bool, ∃ x16_2 : List UInt8, ∃ x16_3 : Int, LoadsRow prog 64 w' ⟨w1.heap.size, 0, none⟩ [.int .i64 x16, .bool x16_1, .string (mkS x16_2), .int .i64 x16_3] ∧ 
    ∃ w5, (Instr.storeAt 64 (.pointer (some ⟨w.heap.size, 0, none⟩)) (.agg ⟨[.int .i64 x16, .bool x16_1, .string (mkS x16_2), .int .i64 x16_3]⟩)).run prog w' = .ok () w5 ∧ 
    ∃ r : List Value, LoadsRow prog 64 w5 ⟨w.heap.size, 0, none⟩ r ∧ (Value.agg ⟨r⟩ = .agg ⟨(decOf hi lo).cells⟩ ∧ Keeps w w5) := by
    intro w' k ng ds e hk hva hvb hd
    obtain ⟨w5, hr, hg, hs, hv5⟩ := store_row hva n64 (zs := decCells 0 false [] 0) (cs := decCells k ng ds e) rfl rfl rfl
    refine ⟨k, ng, ds, e, hvb.lies.row n64, w5, hr, _, hv5.lies.row n64, by rw [hd]; rfl, ?_⟩
    exact Below.grown hk hg hk.size (fun j hj => by simp at hj; omega)
  have setk : ∀ (w' w'' : World) (j : Nat) (v : Value) (cs : List Value), Keeps w w' → Var w' w.heap.size 64 (decCells 0 false [] 0) → Var w' w1.heap.size 64 cs → w'' = w'.setCell ⟨w1.heap.size, j, none⟩ v →
      Keeps w w'' ∧ Var w'' w.heap.size 64 (decCells 0 false [] 0) ∧ Var w'' w1.heap.size 64 (cs.set j v) := by
    rintro w' w'' j v cs hk hva hvb rfl
    refine ⟨Below.setCell hk (by simp only; omega) v, hva.keep ?_, hvb.set j v⟩
    exact Below.heap_setCell _ _ _ _ (by simp only; omega)
  have d58 := div_lt64 hi 58 h1
  have d61 := div_lt64 hi 61 h1
  have d47 := div_lt64 hi 47 h1
  have d49 := div_lt64 hi 49 h1
  have a58 := and31u _ d58
  have a61 := and3u _ d61
  refine ⟨w3, hst, by decide, _, fdiv_nat hi 58, _, a58, fun h30 => ?_, fun h30 => ⟨fun h31 => ?_, fun h31 => ⟨by decide, _, fdiv_nat hi 61, _, a61, fun h3 => ?_, fun h3 => ?_⟩⟩⟩
  · have h30 : hi / 2 ^ 58 % 32 = 30 := by have := of_decide_eq_true h30; omega
    refine ⟨hv3.can (show _ < 4 by decide) rfl, fun w4 hw4 => ?_⟩
    obtain ⟨k4, va4, vb4⟩ := setk w3 w4 0 _ _ hk3' hv13 hv3 hw4
    exact fin w4 1 neg [] 0 k4 va4 vb4 (by unfold decOf; rw [if_pos h30, hneg])
  · have h30 : ¬ hi / 2 ^ 58 % 32 = 30 := by have := of_decide_eq_false h30; omega
    have h31 : hi / 2 ^ 58 % 32 = 31 := by have := of_decide_eq_true h31; omega
    refine ⟨hv3.can (show _ < 4 by decide) rfl, fun w4 hw4 => ?_⟩
    obtain ⟨k4, va4, vb4⟩ := setk w3 w4 0 _ _ hk3' hv13 hv3 hw4
    exact fin w4 2 neg [] 0 k4 va4 vb4 (by unfold decOf; rw [if_neg h30, if_pos h31, hneg])
  · have h30 : ¬ hi / 2 ^ 58 % 32 = 30 := by have := of_decide_eq_false h30; omega
    have h31 : ¬ hi / 2 ^ 58 % 32 = 31 := by have := of_decide_eq_false h31; omega
    have h3 : hi / 2 ^ 61 % 4 = 3 := by have := of_decide_eq_true h3; omega
    have hlt : hi / 2 ^ 47 % 16384 < 16384 := Nat.mod_lt _ (by decide)
    have hd : decOf hi lo = ⟨0, neg, [48], ((hi / 2 ^ 47 % 16384 : Nat) : Int) - 6176⟩ := by unfold decOf; rw [if_neg h30, if_neg h31, if_pos h3, hneg]
    refine ⟨by decide, _, fdiv_nat hi 47, _, and14u _ d47, ?_⟩
    generalize hi / 2 ^ 47 % 16384 = e at *
    refine ⟨_, i64w (n := (e : Int)) (by omega) (by omega), _, i64w (n := (e : Int) + -6176) (by omega) (by omega), hv3.can (show _ < 4 by decide) rfl, fun w8 hw8 => ?_⟩
    obtain ⟨k8, va8, vb8⟩ := setk w3 w8 2 _ _ hk3' hv13 hv3 hw8
    refine ⟨vb8.can (show _ < 4 by decide) rfl, fun w9 hw9 => ?_⟩
    obtain ⟨k9, va9, vb9⟩ := setk w8 w9 3 _ _ k8 va8 vb8 hw9
    exact fin w9 0 neg [48] ((e : Int) + -6176) k9 va9 vb9 hd
  · have h30 : ¬ hi / 2 ^ 58 % 32 = 30 := by have := of_decide_eq_false h30; omega
    have h31 : ¬ hi / 2 ^ 58 % 32 = 31 := by have := of_decide_eq_false h31; omega
    have h3 : ¬ hi / 2 ^ 61 % 4 = 3 := by have := of_decide_eq_false h3; omega
    have hlt : hi / 2 ^ 49 % 16384 < 16384 := Nat.mod_lt _ (by decide)
    have hd : decOf hi lo = ⟨0, neg, decF (num (hi % 2 ^ 49) lo), ((hi / 2 ^ 49 % 16384 : Nat) : Int) - 6176⟩ := by unfold decOf; rw [if_neg h30, if_neg h31, if_neg h3, hneg]
    have hm49 : hi % 2 ^ 49 < 18446744073709551616 := Nat.lt_of_le_of_lt (Nat.mod_le _ _) h1
    refine ⟨_, and49u hi h1, ?_⟩
    refine (ret66 (hi % 2 ^ 49) lo hm49 h2 w3).go fun w11 hk11 => ⟨_, rfl, by decide, _, fdiv_nat hi 49, _, and14u _ d49, ?_⟩
    have hv11 := hv3.keeps hk11
    have hva11 := hv13.keeps hk11
    have hk11' := hk3'.trans hk11
    generalize decF (num (hi % 2 ^ 49) lo) = ds at *
    generalize hi / 2 ^ 49 % 16384 = e at *
    refine ⟨_, i64w (n := (e : Int)) (by omega) (by omega), _, i64w (n := (e : Int) + -6176) (by omega) (by omega), hv11.can (show _ < 4 by decide) rfl, fun w12 hw12 => ?_⟩
    obtain ⟨k8, va8, vb8⟩ := setk w11 w12 2 _ _ hk11' hva11 hv11 hw12
    refine ⟨vb8.can (show _ < 4 by decide) rfl, fun w13 hw13 => ?_⟩
    obtain ⟨k9, va9, vb9⟩ := setk w12 w13 3 _ _ k8 va8 vb8 hw13
    exact fin w13 0 neg ds ((e : Int) + -6176) k9 va9 vb9 hd
end Go.Proofs.Tryz
