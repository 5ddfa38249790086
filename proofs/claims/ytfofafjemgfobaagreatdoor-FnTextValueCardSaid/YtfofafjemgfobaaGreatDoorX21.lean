/- Parts of a proof, joined: B16, B17, B18, B19, B20, B21, B22, VT. -/
import Derived.Test.YtfofafjemgfobaaGreatDoorX20
import Derived.Test.YtfofafjemgfobaaGreatDoorX4
set_option linter.unusedVariables false
namespace Go.Proofs.Tryz
open Go.Vc Go.RowKit
theorem or_u64 (a b : Nat) (j : Nat) (ha : a < 2 ^ j) (hb : b % 2 ^ j = 0) (h1 : a < 18446744073709551616) (h2 : b < 18446744073709551616) : bits .or .u64 (a : Int) (b : Int) = ((a + b : Nat) : Int) := by
  rw [bits_or_u64_nat a b h1 h2, or_add a b j ha hb]
theorem ret242 (p : Option Addr) (n c : Nat) (b0 b1 b2 b3 b4 b5 b6 b7 : UInt8) (l r : List UInt8) (w : World) (hl : l = b0 :: b1 :: b2 :: b3 :: b4 :: b5 :: b6 :: b7 :: r) (hr : ReadsB w p l) (hn : n = l.length) :
    Ret 242 [.agg ⟨[]⟩, .slice p n c] w (.int .u64 (num8 b0 b1 b2 b3 b4 b5 b6 b7 : Nat)) := by
  have hn8 : 8 ≤ n := by rw [hn, hl]; simp
  have q0 := b0.toNat_lt
  have q1 := b1.toNat_lt
  have q2 := b2.toNat_lt
  have q3 := b3.toNat_lt
  have q4 := b4.toNat_lt
  have q5 := b5.toNat_lt
  have q6 := b6.toNat_lt
  have q7 := b7.toNat_lt
  obtain ⟨a, ha⟩ : ∃ a, p = some a := by obtain ⟨a, ha, _⟩ := hr 0 b0 (by rw [hl]; rfl); exact ⟨a, ha⟩
  subst ha
  refine Ret.of (c242 _ _ _ w _ ?_)
  unfold VC242
  intro w1 hw1
  have hk1 : Keeps w w1 := by rw [hw1]; exact (Keeps.refl w).alloc _
  have hr1 := hr.keeps hk1
  have c0 : w1.cell? a = some (.int .u8 (b0.toNat : Int)) := by
    have := hr1.at (j := 0) (b := b0) (by rw [hl]; rfl)
    have e : a.add 0 = a := by simp [Addr.add]
    rwa [e] at this
  have c1 := hr1.at (j := 1) (b := b1) (by rw [hl]; rfl)
  have c2 := hr1.at (j := 2) (b := b2) (by rw [hl]; rfl)
  have c3 := hr1.at (j := 3) (b := b3) (by rw [hl]; rfl)
  have c4 := hr1.at (j := 4) (b := b4) (by rw [hl]; rfl)
  have c5 := hr1.at (j := 5) (b := b5) (by rw [hl]; rfl)
  have c6 := hr1.at (j := 6) (b := b6) (by rw [hl]; rfl)
  have c7 := hr1.at (j := 7) (b := b7) (by rw [hl]; rfl)
  have bw : ∀ b : UInt8, IntKind.u64.wrap (b.toNat : Int) = (b.toNat : Int) := fun b => by have := b.toNat_lt; exact u64w (by omega) (by omega)
  have sh : ∀ (b : UInt8) (k : Int) (m : Nat), k = (m : Int) → m ≤ 72057594037927936 → IntKind.u64.wrap ((b.toNat : Int) * k) = ((b.toNat * m : Nat) : Int) := by
    intro b k m hk hm
    have hb := b.toNat_lt
    have h1 : b.toNat * m ≤ 255 * 72057594037927936 := Nat.mul_le_mul (by omega) hm
    rw [hk]
    have e : (b.toNat : Int) * (m : Int) = ((b.toNat * m : Nat) : Int) := by simp
    rw [e]
    exact u64w (by omega) (by omega)
  refine ⟨⟨by omega, by omega⟩, a, rfl, _, c7, ⟨by omega, by omega⟩, a, rfl, _, c0, _, bw b0,
    ⟨by omega, by omega⟩, a, rfl, _, c1, _, bw b1, by decide, _, sh b1 _ 256 rfl (by decide), _, or_u64 _ _ 8 (by omega) (by omega) (by omega) (by omega),
    ⟨by omega, by omega⟩, a, rfl, _, c2, _, bw b2, by decide, _, sh b2 _ 65536 rfl (by decide), _, or_u64 _ _ 16 (by omega) (by omega) (by omega) (by omega),
    ⟨by omega, by omega⟩, a, rfl, _, c3, _, bw b3, by decide, _, sh b3 _ 16777216 rfl (by decide), _, or_u64 _ _ 24 (by omega) (by omega) (by omega) (by omega),
    ⟨by omega, by omega⟩, a, rfl, _, c4, _, bw b4, by decide, _, sh b4 _ 4294967296 rfl (by decide), _, or_u64 _ _ 32 (by omega) (by omega) (by omega) (by omega),
    ⟨by omega, by omega⟩, a, rfl, _, c5, _, bw b5, by decide, _, sh b5 _ 1099511627776 rfl (by decide), _, or_u64 _ _ 40 (by omega) (by omega) (by omega) (by omega),
    ⟨by omega, by omega⟩, a, rfl, _, c6, _, bw b6, by decide, _, sh b6 _ 281474976710656 rfl (by decide), _, or_u64 _ _ 48 (by omega) (by omega) (by omega) (by omega),
    ⟨by omega, by omega⟩, a, rfl, _, c7, _, bw b7, by decide, _, sh b7 _ 72057594037927936 rfl (by decide), _, or_u64 _ _ 56 (by omega) (by omega) (by omega) (by omega), rfl, hk1.trans (Keeps.refl w1).drew⟩
theorem ret207 (p : Option Addr) (n c : Nat) (N : Nat) (r : List UInt8) (w : World) (hN : N < 18446744073709551616) (hr : ReadsB w p (le64 (N : Int) ++ r)) (hn : n = (le64 (N : Int) ++ r).length) (hc : n ≤ c) :
    Ret 207 [.slice p n c] w (.tuple ⟨[.int .u64 (N : Int), .slice (slAddr p c 8 1) (n - 8) (c - 8), .bool true]⟩) := by
  have hnl := hn
  rw [List.length_append, le64_len] at hnl
  refine Ret.of (c207 _ _ _ w _ ?_)
  unfold VC207
  refine ⟨fun h => by have := of_decide_eq_true h; omega, fun _ => ⟨[], True.intro, ⟨by kernel_rfl, fun i v hi => by simp at hi⟩, ⟨by omega, by omega, by omega⟩, ?_⟩⟩
  have h := ret242 p n c _ _ _ _ _ _ _ _ (le64 (N : Int) ++ r) r w.drew (by rw [le64_list]; rfl) hr hn
  rw [num8_le (N : Int) N (by omega)] at h
  exact h.go fun w1 hk1 => ⟨_, rfl, rfl, ((Keeps.refl w).drew).trans hk1⟩
theorem ret86 (N : Nat) (p : Option Addr) (n c : Nat) (w : World) (hN : N < 18446744073709551616) (hr : ReadsB w p (le64 (N : Int))) (hn : n = (le64 (N : Int)).length) (hc : n ≤ c) :
    Ret 86 [rawV 1 p n c] w (.tuple ⟨[.float .f64 N, .bool true]⟩) := by
  refine Ret.of (c86 _ _ _ _ w _ ?_)
  unfold VC86
  intro w1 hw1
  have hk1 : Keeps w w1 := by rw [hw1]; exact (Keeps.refl w).alloc _
  have hv1 : Var w1 w.heap.size 92 [.int .u8 1, .slice p n c] := by rw [hw1]; exact var_alloc w _ 92
  refine ⟨1, hv1.lies.at 0 rfl rfl, (fun h => absurd h (by decide)), fun _ => ⟨p, n, c, hv1.lies.at 1 rfl rfl, ?_⟩⟩
  have h146 : Ret 146 [.slice p n c] w1 (.tuple ⟨[.float .f64 N, .slice (slAddr p c 8 1) (n - 8) (c - 8), .bool true]⟩) := by
    refine Ret.of (c146 _ _ _ w1 _ ?_)
    unfold VC146
    refine (ret207 p n c N [] w1 hN (by rw [List.append_nil]; exact hr.keeps hk1) (by rw [List.append_nil]; exact hn) hc).go fun w2 hk2 => ⟨_, _, _, _, _, rfl, (fun h => by cases h), fun _ => ⟨N, w2, ?_, rfl, hk2⟩⟩
    have := frombits (N : Int) w2
    rwa [Int.toNat_natCast] at this
  exact h146.go fun w2 hk2 => ⟨_, _, _, _, _, rfl, (fun h => by cases h), fun _ => ⟨rfl, hk1.trans hk2⟩⟩
theorem ret211n (p : Option Addr) (n c : Nat) (N : Int) (r : List UInt8) (w : World) (h0 : -9223372036854775808 ≤ N) (h9 : N ≤ 9223372036854775807) (hr : ReadsB w p (le64 (IntKind.u64.wrap N) ++ r)) (hn : n = (le64 (IntKind.u64.wrap N) ++ r).length) (hc : n ≤ c) :
    Ret 211 [.slice p n c] w (.tuple ⟨[.int .i64 N, .slice (slAddr p c 8 1) (n - 8) (c - 8), .bool true]⟩) := by
  have h := ret211 p n c _ _ _ _ _ _ _ _ (le64 (IntKind.u64.wrap N) ++ r) r w (by rw [le64_list]; rfl) hr hn hc
  have hm : (((N % 18446744073709551616).toNat : Nat) : Int) = IntKind.u64.wrap N % 18446744073709551616 := by
    rw [IntKind.wrap_u64]; omega
  rw [num8_le _ _ hm] at h
  have e : IntKind.i64.wrap (((N % 18446744073709551616).toNat : Nat) : Int) = N := by
    rw [IntKind.wrap_i64]; omega
  rwa [e] at h
theorem ret105 (N : Int) (p : Option Addr) (n c : Nat) (w : World) (h0 : -9223372036854775808 ≤ N) (h9 : N ≤ 9223372036854775807) (hr : ReadsB w p (le64 (IntKind.u64.wrap N))) (hn : n = (le64 (IntKind.u64.wrap N)).length) (hc : n ≤ c) :
    Ret 105 [rawV 18 p n c] w (.tuple ⟨[.int .i64 N, .bool true]⟩) := by
  refine Ret.of (c105 _ _ _ _ w _ ?_)
  unfold VC105
  intro w1 hw1
  have hk1 : Keeps w w1 := by rw [hw1]; exact (Keeps.refl w).alloc _
  have hv1 : Var w1 w.heap.size 92 [.int .u8 18, .slice p n c] := by rw [hw1]; exact var_alloc w _ 92
  refine ⟨18, hv1.lies.at 0 rfl rfl, (fun h => absurd h (by decide)), fun _ => ⟨p, n, c, hv1.lies.at 1 rfl rfl, ?_⟩⟩
  have h1 : Ret 164 [.slice p n c] w1 (.tuple ⟨[.int .i64 N, .slice (slAddr p c 8 1) (n - 8) (c - 8), .bool true]⟩) := by
    refine Ret.of (c164 _ _ _ w1 _ ?_)
    unfold VC164
    exact (ret211n p n c N [] w1 h0 h9 (by rw [List.append_nil]; exact hr.keeps hk1) (by rw [List.append_nil]; exact hn) hc).go fun w2 hk2 => ⟨_, _, _, _, _, rfl, rfl, hk2⟩
  exact h1.go fun w2 hk2 => ⟨_, _, _, _, _, rfl, (fun h => by cases h), fun _ => ⟨rfl, hk1.trans hk2⟩⟩
theorem ret95 (N : Int) (p : Option Addr) (n c : Nat) (w : World) (h0 : -9223372036854775808 ≤ N) (h9 : N ≤ 9223372036854775807) (hr : ReadsB w p (le64 (IntKind.u64.wrap N))) (hn : n = (le64 (IntKind.u64.wrap N)).length) (hc : n ≤ c) :
    Ret 95 [rawV 9 p n c] w (.tuple ⟨[.int .i64 N, .bool true]⟩) := by
  refine Ret.of (c95 _ _ _ _ w _ ?_)
  unfold VC95
  intro w1 hw1
  have hk1 : Keeps w w1 := by rw [hw1]; exact (Keeps.refl w).alloc _
  have hv1 : Var w1 w.heap.size 92 [.int .u8 9, .slice p n c] := by rw [hw1]; exact var_alloc w _ 92
  refine ⟨9, hv1.lies.at 0 rfl rfl, (fun h => absurd h (by decide)), fun _ => ⟨p, n, c, hv1.lies.at 1 rfl rfl, ?_⟩⟩
  have h1 : Ret 155 [.slice p n c] w1 (.tuple ⟨[.int .i64 N, .slice (slAddr p c 8 1) (n - 8) (c - 8), .bool true]⟩) := by
    refine Ret.of (c155 _ _ _ w1 _ ?_)
    unfold VC155
    exact (ret211n p n c N [] w1 h0 h9 (by rw [List.append_nil]; exact hr.keeps hk1) (by rw [List.append_nil]; exact hn) hc).go fun w2 hk2 => ⟨_, _, _, _, _, rfl, rfl, hk2⟩
  exact h1.go fun w2 hk2 => ⟨_, _, _, _, _, rfl, (fun h => by cases h), fun _ => ⟨rfl, hk1.trans hk2⟩⟩
theorem ret103 (N : Int) (p : Option Addr) (n c : Nat) (w : World) (h0 : -2147483648 ≤ N) (h9 : N ≤ 2147483647) (hr : ReadsB w p (le32 N)) (hn : n = (le32 N).length) (hc : n ≤ c) :
    Ret 103 [rawV 16 p n c] w (.tuple ⟨[.int .i32 N, .bool true]⟩) := by
  refine Ret.of (c103 _ _ _ _ w _ ?_)
  unfold VC103
  intro w1 hw1
  have hk1 : Keeps w w1 := by rw [hw1]; exact (Keeps.refl w).alloc _
  have hv1 : Var w1 w.heap.size 92 [.int .u8 16, .slice p n c] := by rw [hw1]; exact var_alloc w _ 92
  refine ⟨16, hv1.lies.at 0 rfl rfl, (fun h => absurd h (by decide)), fun _ => ⟨p, n, c, hv1.lies.at 1 rfl rfl, ?_⟩⟩
  have h1 : Ret 162 [.slice p n c] w1 (.tuple ⟨[.int .i32 N, .slice (slAddr p c 4 1) (n - 4) (c - 4), .bool true]⟩) := by
    refine Ret.of (c162 _ _ _ w1 _ ?_)
    unfold VC162
    exact (ret133n p n c N [] w1 h0 h9 (by rw [List.append_nil]; exact hr.keeps hk1) (by rw [List.append_nil]; exact hn) hc).go fun w2 hk2 => ⟨_, _, _, _, _, rfl, rfl, hk2⟩
  exact h1.go fun w2 hk2 => ⟨_, _, _, _, _, rfl, (fun h => by cases h), fun _ => ⟨rfl, hk1.trans hk2⟩⟩
theorem ret93 (N : Int) (p : Option Addr) (n c : Nat) (w : World) (hN : N = 0 ∨ N = 1) (hr : ReadsB w p [b8 N]) (hn : n = 1) (hc : n ≤ c) :
    Ret 93 [rawV 8 p n c] w (.tuple ⟨[.bool (decide (N = 1)), .bool true]⟩) := by
  refine Ret.of (c93 _ _ _ _ w _ ?_)
  unfold VC93
  intro w1 hw1
  have hk1 : Keeps w w1 := by rw [hw1]; exact (Keeps.refl w).alloc _
  have hv1 : Var w1 w.heap.size 92 [.int .u8 8, .slice p n c] := by rw [hw1]; exact var_alloc w _ 92
  refine ⟨8, hv1.lies.at 0 rfl rfl, (fun h => absurd h (by decide)), fun _ => ⟨p, n, c, hv1.lies.at 1 rfl rfl, ?_⟩⟩
  have h1 : Ret 153 [.slice p n c] w1 (.tuple ⟨[.bool (decide (N = 1)), .slice (slAddr p c 1 1) (n - 1) (c - 1), .bool true]⟩) := by
    refine Ret.of (c153 _ _ _ w1 _ ?_)
    unfold VC153
    obtain ⟨a, ha, hc0⟩ := (hr.keeps hk1) 0 (b8 N) rfl
    subst ha
    have e0 : a.add 0 = a := by simp [Addr.add]
    rw [e0] at hc0
    have hb : ((b8 N).toNat : Int) = N := by rw [b8_toNat]; omega
    rw [hb] at hc0
    exact ⟨fun h => by have := of_decide_eq_true h; omega, fun _ => ⟨⟨by omega, by omega⟩, a, rfl, N, hc0, ⟨by omega, by omega, by omega⟩, rfl, (Keeps.refl w1).drew⟩⟩
  exact h1.go fun w2 hk2 => ⟨_, _, _, _, _, rfl, (fun h => by cases h), fun _ => ⟨rfl, hk1.trans hk2⟩⟩
theorem ret99 (s : List UInt8) (p : Option Addr) (n c : Nat) (w : World) (hs : s.length ≤ 1000000) (hr : ReadsB w p (docText s)) (hn : n = (docText s).length) (hc : n ≤ c) :
    Ret 99 [rawV 13 p n c] w (.tuple ⟨[.string (mkS s), .bool true]⟩) := by
  refine Ret.of (c99 _ _ _ _ w _ ?_)
  unfold VC99
  intro w1 hw1
  have hk1 : Keeps w w1 := by rw [hw1]; exact (Keeps.refl w).alloc _
  have hv1 : Var w1 w.heap.size 92 [.int .u8 13, .slice p n c] := by rw [hw1]; exact var_alloc w _ 92
  obtain ⟨rm, h, rfl⟩ := ret201 s [] p n c w1 hs (by rw [List.append_nil]; exact hr.keeps hk1) (by rw [List.append_nil]; exact hn) hc
  refine ⟨13, hv1.lies.at 0 rfl rfl, (fun h => absurd h (by decide)), fun _ => ⟨p, n, c, hv1.lies.at 1 rfl rfl, ?_⟩⟩
  have h1 : Ret 159 [.slice p n c] w1 (.tuple ⟨[.string (mkS s), .slice (slAddr (slAddr p c 4 1) (c - 4) (s.length + 1) 1) (n - 4 - (s.length + 1)) (c - 4 - (s.length + 1)), .bool true]⟩) := by
    refine Ret.of (c159 _ _ _ w1 _ ?_)
    unfold VC159
    exact h.go fun w2 hk2 => ⟨_, _, _, _, _, rfl, rfl, hk2⟩
  exact h1.go fun w2 hk2 => ⟨_, _, _, _, _, rfl, (fun h => by cases h), fun _ => ⟨rfl, hk1.trans hk2⟩⟩
theorem ret100 (s : List UInt8) (p : Option Addr) (n c : Nat) (w : World) (hs : s.length ≤ 1000000) (hr : ReadsB w p (docText s)) (hn : n = (docText s).length) (hc : n ≤ c) :
    Ret 100 [rawV 14 p n c] w (.tuple ⟨[.string (mkS s), .bool true]⟩) := by
  refine Ret.of (c100 _ _ _ _ w _ ?_)
  unfold VC100
  intro w1 hw1
  have hk1 : Keeps w w1 := by rw [hw1]; exact (Keeps.refl w).alloc _
  have hv1 : Var w1 w.heap.size 92 [.int .u8 14, .slice p n c] := by rw [hw1]; exact var_alloc w _ 92
  obtain ⟨rm, h, rfl⟩ := ret201 s [] p n c w1 hs (by rw [List.append_nil]; exact hr.keeps hk1) (by rw [List.append_nil]; exact hn) hc
  refine ⟨14, hv1.lies.at 0 rfl rfl, (fun h => absurd h (by decide)), fun _ => ⟨p, n, c, hv1.lies.at 1 rfl rfl, ?_⟩⟩
  have h1 : Ret 160 [.slice p n c] w1 (.tuple ⟨[.string (mkS s), .slice (slAddr (slAddr p c 4 1) (c - 4) (s.length + 1) 1) (n - 4 - (s.length + 1)) (c - 4 - (s.length + 1)), .bool true]⟩) := by
    refine Ret.of (c160 _ _ _ w1 _ ?_)
    unfold VC160
    exact h.go fun w2 hk2 => ⟨_, _, _, _, _, rfl, rfl, hk2⟩
  exact h1.go fun w2 hk2 => ⟨_, _, _, _, _, rfl, (fun h => by cases h), fun _ => ⟨rfl, hk1.trans hk2⟩⟩
theorem or_u32 (a b : Nat) (j : Nat) (ha : a < 2 ^ j) (hb : b % 2 ^ j = 0) (h1 : a < 4294967296) (h2 : b < 4294967296) : bits .or .u32 (a : Int) (b : Int) = ((a + b : Nat) : Int) := by
  have e32 : (2 : Int) ^ 32 = 4294967296 := by decide
  have h := (bits_nat .u32 32 (by decide) (fun n h0 h1 => u32w h0 (by omega)) a b h1 h2).2
  rw [h, or_add a b j ha hb]
theorem ret253 (p : Option Addr) (n c : Nat) (b0 b1 b2 b3 : UInt8) (l r : List UInt8) (w : World) (hl : l = b0 :: b1 :: b2 :: b3 :: r) (hr : ReadsB w p l) (hn : n = l.length) :
    Ret 253 [.agg ⟨[]⟩, .slice p n c] w (.int .u32 (num4 b0 b1 b2 b3 : Nat)) := by
  have hn4 : 4 ≤ n := by rw [hn, hl]; simp
  have q0 := b0.toNat_lt
  have q1 := b1.toNat_lt
  have q2 := b2.toNat_lt
  have q3 := b3.toNat_lt
  obtain ⟨a, ha⟩ : ∃ a, p = some a := by obtain ⟨a, ha, _⟩ := hr 0 b0 (by rw [hl]; rfl); exact ⟨a, ha⟩
  subst ha
  refine Ret.of (c253 _ _ _ w _ ?_)
  unfold VC253
  intro w1 hw1
  have hk1 : Keeps w w1 := by rw [hw1]; exact (Keeps.refl w).alloc _
  have hr1 := hr.keeps hk1
  have c0 : w1.cell? a = some (.int .u8 (b0.toNat : Int)) := by
    have := hr1.at (j := 0) (b := b0) (by rw [hl]; rfl)
    have e : a.add 0 = a := by simp [Addr.add]
    rwa [e] at this
  have c1 := hr1.at (j := 1) (b := b1) (by rw [hl]; rfl)
  have c2 := hr1.at (j := 2) (b := b2) (by rw [hl]; rfl)
  have c3 := hr1.at (j := 3) (b := b3) (by rw [hl]; rfl)
  have bw : ∀ b : UInt8, IntKind.u32.wrap (b.toNat : Int) = (b.toNat : Int) := fun b => by have := b.toNat_lt; exact u32w (by omega) (by omega)
  have sh : ∀ (b : UInt8) (k : Int) (m : Nat), k = (m : Int) → m ≤ 16777216 → IntKind.u32.wrap ((b.toNat : Int) * k) = ((b.toNat * m : Nat) : Int) := by
    intro b k m hk hm
    have hb := b.toNat_lt
    have h1 : b.toNat * m ≤ 255 * 16777216 := Nat.mul_le_mul (by omega) hm
    rw [hk]
    have e : (b.toNat : Int) * (m : Int) = ((b.toNat * m : Nat) : Int) := by simp
    rw [e]
    exact u32w (by omega) (by omega)
  refine ⟨⟨by omega, by omega⟩, a, rfl, _, c3, ⟨by omega, by omega⟩, a, rfl, _, c0, _, bw b0,
    ⟨by omega, by omega⟩, a, rfl, _, c1, _, bw b1, by decide, _, sh b1 _ 256 rfl (by decide), _, or_u32 _ _ 8 (by omega) (by omega) (by omega) (by omega),
    ⟨by omega, by omega⟩, a, rfl, _, c2, _, bw b2, by decide, _, sh b2 _ 65536 rfl (by decide), _, or_u32 _ _ 16 (by omega) (by omega) (by omega) (by omega),
    ⟨by omega, by omega⟩, a, rfl, _, c3, _, bw b3, by decide, _, sh b3 _ 16777216 rfl (by decide), _, or_u32 _ _ 24 (by omega) (by omega) (by omega) (by omega), rfl, hk1.trans (Keeps.refl w1).drew⟩
theorem ret215 (p : Option Addr) (n c : Nat) (b0 b1 b2 b3 : UInt8) (l r : List UInt8) (w : World) (hl : l = b0 :: b1 :: b2 :: b3 :: r) (hr : ReadsB w p l) (hn : n = l.length) (hc : n ≤ c) :
    Ret 215 [.slice p n c] w (.tuple ⟨[.int .u32 (num4 b0 b1 b2 b3 : Nat), .slice (slAddr p c 4 1) (n - 4) (c - 4), .bool true]⟩) := by
  have hn4 : 4 ≤ n := by rw [hn, hl]; simp
  refine Ret.of (c215 _ _ _ w _ ?_)
  unfold VC215
  refine ⟨fun h => by have := of_decide_eq_true h; omega, fun _ => ⟨[], True.intro, ⟨by kernel_rfl, fun i v hi => by simp at hi⟩, ⟨by omega, by omega, by omega⟩, ?_⟩⟩
  exact (ret253 p n c b0 b1 b2 b3 l r w.drew hl hr hn).go fun w1 hk1 => ⟨_, rfl, rfl, ((Keeps.refl w).drew).trans hk1⟩
theorem num4_low (N : Nat) : num4 (b8 ((N : Int) / 2 ^ (8 * 0))) (b8 ((N : Int) / 2 ^ (8 * 1))) (b8 ((N : Int) / 2 ^ (8 * 2))) (b8 ((N : Int) / 2 ^ (8 * 3))) = N % 2 ^ 32 := by
  have h0 := b8_toNat ((N : Int) / 2 ^ (8 * 0))
  have h1 := b8_toNat ((N : Int) / 2 ^ (8 * 1))
  have h2 := b8_toNat ((N : Int) / 2 ^ (8 * 2))
  have h3 := b8_toNat ((N : Int) / 2 ^ (8 * 3))
  simp only [Nat.mul_zero, Nat.reduceMul, Int.reducePow, Int.pow_zero, Int.ediv_one] at h0 h1 h2 h3
  unfold num4
  simp only [Nat.mul_zero, Nat.reduceMul, Int.reducePow, Int.pow_zero, Int.ediv_one]
  omega
theorem num4_high (N : Nat) (hN : N < 18446744073709551616) : num4 (b8 ((N : Int) / 2 ^ (8 * 4))) (b8 ((N : Int) / 2 ^ (8 * 5))) (b8 ((N : Int) / 2 ^ (8 * 6))) (b8 ((N : Int) / 2 ^ (8 * 7))) = N / 2 ^ 32 := by
  have h4 := b8_toNat ((N : Int) / 2 ^ (8 * 4))
  have h5 := b8_toNat ((N : Int) / 2 ^ (8 * 5))
  have h6 := b8_toNat ((N : Int) / 2 ^ (8 * 6))
  have h7 := b8_toNat ((N : Int) / 2 ^ (8 * 7))
  simp only [Nat.reduceMul, Int.reducePow] at h4 h5 h6 h7
  unfold num4
  simp only [Nat.reduceMul, Int.reducePow]
  omega
theorem ret104 (N : Nat) (p : Option Addr) (n c : Nat) (w : World) (hN : N < 18446744073709551616) (hr : ReadsB w p (le64 (N : Int))) (hn : n = (le64 (N : Int)).length) (hc : n ≤ c) :
    Ret 104 [rawV 17 p n c] w (.tuple ⟨[.int .u32 ((N / 2 ^ 32 : Nat) : Int), .int .u32 ((N % 2 ^ 32 : Nat) : Int), .bool true]⟩) := by
  rw [le64_len] at hn
  refine Ret.of (c104 _ _ _ _ w _ ?_)
  unfold VC104
  intro w1 hw1
  have hk1 : Keeps w w1 := by rw [hw1]; exact (Keeps.refl w).alloc _
  have hv1 : Var w1 w.heap.size 92 [.int .u8 17, .slice p n c] := by rw [hw1]; exact var_alloc w _ 92
  refine ⟨17, hv1.lies.at 0 rfl rfl, (fun h => absurd h (by decide)), fun _ => ⟨p, n, c, hv1.lies.at 1 rfl rfl, ?_⟩⟩
  have h1 : Ret 163 [.slice p n c] w1 (.tuple ⟨[.int .u32 ((N / 2 ^ 32 : Nat) : Int), .int .u32 ((N % 2 ^ 32 : Nat) : Int), .slice (slAddr (slAddr p c 4 1) (c - 4) 4 1) (n - 4 - 4) (c - 4 - 4), .bool true]⟩) := by
    refine Ret.of (c163 _ _ _ w1 _ ?_)
    unfold VC163
    have ha := ret215 p n c _ _ _ _ (le64 (N : Int)) _ w1 (le64_list _) (hr.keeps hk1) (by rw [hn, le64_len]) hc
    rw [num4_low] at ha
    refine ha.go fun w2 hk2 => ⟨_, _, _, _, _, rfl, (fun h => by cases h), fun _ => ?_⟩
    have hdr := reads_drop ((hr.keeps hk1).keeps hk2) (by rw [le64_len]; omega : (le64 (N : Int)).length ≤ c) 4
    have hb := ret215 (slAddr p c 4 1) (n - 4) (c - 4) _ _ _ _ ((le64 (N : Int)).drop 4) [] w2 rfl hdr (by rw [List.length_drop, le64_len]; omega) (by omega)
    rw [num4_high N hN] at hb
    exact hb.go fun w3 hk3 => ⟨_, _, _, _, _, rfl, (fun h => by cases h), fun _ => ⟨rfl, hk2.trans hk3⟩⟩
  exact h1.go fun w2 hk2 => ⟨_, _, _, _, _, _, rfl, (fun h => by cases h), fun _ => ⟨rfl, hk1.trans hk2⟩⟩
theorem ret106 (L H : Nat) (p : Option Addr) (n c : Nat) (w : World) (hL : L < 18446744073709551616) (hH : H < 18446744073709551616) (hr : ReadsB w p (le64 (L : Int) ++ le64 (H : Int))) (hn : n = (le64 (L : Int) ++ le64 (H : Int)).length) (hc : n ≤ c) :
    Ret 106 [rawV 19 p n c] w (.tuple ⟨[.int .u64 (H : Int), .int .u64 (L : Int), .bool true]⟩) := by
  have hn16 : n = 16 := by rw [hn, List.length_append, le64_len, le64_len]
  refine Ret.of (c106 _ _ _ _ w _ ?_)
  unfold VC106
  intro w1 hw1
  have hk1 : Keeps w w1 := by rw [hw1]; exact (Keeps.refl w).alloc _
  have hv1 : Var w1 w.heap.size 92 [.int .u8 19, .slice p n c] := by rw [hw1]; exact var_alloc w _ 92
  refine ⟨19, hv1.lies.at 0 rfl rfl, (fun h => absurd h (by decide)), fun _ => ⟨p, n, c, hv1.lies.at 1 rfl rfl, ?_⟩⟩
  have h1 : Ret 165 [.slice p n c] w1 (.tuple ⟨[.int .u64 (H : Int), .int .u64 (L : Int), .slice (slAddr (slAddr p c 8 1) (c - 8) 8 1) (n - 8 - 8) (c - 8 - 8), .bool true]⟩) := by
    refine Ret.of (c165 _ _ _ w1 _ ?_)
    unfold VC165
    refine (ret207 p n c L (le64 (H : Int)) w1 hL (hr.keeps hk1) hn hc).go fun w2 hk2 => ⟨_, _, _, _, _, rfl, (fun h => by cases h), fun _ => ?_⟩
    have hdr := reads_drop ((hr.keeps hk1).keeps hk2) (by rw [← hn]; exact hc) 8
    have ed : (le64 (L : Int) ++ le64 (H : Int)).drop 8 = le64 (H : Int) ++ [] := by
      rw [List.append_nil]; exact List.drop_left' (le64_len _)
    rw [ed] at hdr
    exact (ret207 (slAddr p c 8 1) (n - 8) (c - 8) H [] w2 hH hdr (by rw [List.append_nil, le64_len]; omega) (by omega)).go fun w3 hk3 => ⟨_, _, _, _, _, rfl, (fun h => by cases h), fun _ => ⟨rfl, hk2.trans hk3⟩⟩
  exact h1.go fun w2 hk2 => ⟨_, _, _, _, _, _, rfl, (fun h => by cases h), fun _ => ⟨rfl, hk1.trans hk2⟩⟩
theorem ret212 (s r : List UInt8) (p : Option Addr) (n c : Nat) (w : World) (hs : (0 : UInt8) ∉ s) (hr : ReadsB w p (s ++ 0 :: r)) (hn : n = (s ++ 0 :: r).length) (hc : n ≤ c) (hlim : n ≤ 2000000000) :
    Ret 212 [.slice p n c] w (.tuple ⟨[.string (mkS s), .slice (slAddr p c (s.length + 1) 1) (n - (s.length + 1)) (c - (s.length + 1)), .bool true]⟩) := by
  have hnl := hn
  simp only [List.length_append, List.length_cons] at hnl
  refine Ret.of (c212 _ _ _ w _ ?_)
  unfold VC212
  have h1 : Ret 243 [.slice p n c] w (.tuple ⟨[.slice p s.length c, .slice (slAddr p c (s.length + 1) 1) (n - (s.length + 1)) (c - (s.length + 1)), .bool true]⟩) := by
    refine Ret.of (c243 _ _ _ w _ ?_)
    unfold VC243
    exact (ret136 p n c s r w hs hr hn).go fun w1 hk1 => ⟨_, rfl, (fun h => by have := of_decide_eq_true h; omega), fun _ => ⟨⟨by omega, by omega⟩, ((s.length + 1 : Nat) : Int), by rw [i64w (by omega) (by omega)]; omega, ⟨by omega, by omega, by omega⟩, rfl, hk1.trans (Keeps.refl w1).drew⟩⟩
  exact h1.go fun w1 hk1 => ⟨_, _, _, _, _, _, _, rfl, (fun h => by cases h), fun _ => ⟨s, w1, conv_string (hr.keeps hk1).left rfl, rfl, hk1⟩⟩
theorem ret96 (s o : List UInt8) (p : Option Addr) (n c : Nat) (w : World) (hs : (0 : UInt8) ∉ s) (ho : (0 : UInt8) ∉ o) (hr : ReadsB w p (s ++ [0] ++ o ++ [0])) (hn : n = (s ++ [0] ++ o ++ [0]).length) (hc : n ≤ c) (hlim : n ≤ 2000000000) :
    Ret 96 [rawV 11 p n c] w (.tuple ⟨[.string (mkS s), .string (mkS o), .bool true]⟩) := by
  have e1 : s ++ [0] ++ o ++ [0] = s ++ 0 :: (o ++ [0]) := by simp
  rw [e1] at hr hn
  have hnl := hn
  simp only [List.length_append, List.length_cons, List.length_nil] at hnl
  refine Ret.of (c96 _ _ _ _ w _ ?_)
  unfold VC96
  intro w1 hw1
  have hk1 : Keeps w w1 := by rw [hw1]; exact (Keeps.refl w).alloc _
  have hv1 : Var w1 w.heap.size 92 [.int .u8 11, .slice p n c] := by rw [hw1]; exact var_alloc w _ 92
  refine ⟨11, hv1.lies.at 0 rfl rfl, (fun h => absurd h (by decide)), fun _ => ⟨p, n, c, hv1.lies.at 1 rfl rfl, ?_⟩⟩
  have h1 : ∃ q m k, Ret 156 [.slice p n c] w1 (.tuple ⟨[.string (mkS s), .string (mkS o), .slice q m k, .bool true]⟩) := by
    refine ⟨slAddr (slAddr p c (s.length + 1) 1) (c - (s.length + 1)) (o.length + 1) 1, n - (s.length + 1) - (o.length + 1), c - (s.length + 1) - (o.length + 1), ?_⟩
    refine Ret.of (c156 _ _ _ w1 _ ?_)
    unfold VC156
    refine (ret212 s (o ++ [0]) p n c w1 hs (hr.keeps hk1) hn hc hlim).go fun w2 hk2 => ⟨_, _, _, _, _, rfl, (fun h => by cases h), fun _ => ?_⟩
    have hdr := reads_drop ((hr.keeps hk1).keeps hk2) (by rw [← hn]; exact hc) (s.length + 1)
    have ed : (s ++ 0 :: (o ++ [0])).drop (s.length + 1) = o ++ 0 :: [] := by rw [List.drop_append]; simp
    rw [ed] at hdr
    exact (ret212 o [] (slAddr p c (s.length + 1) 1) (n - (s.length + 1)) (c - (s.length + 1)) w2 ho hdr (by simp only [List.length_append, List.length_cons, List.length_nil]; omega) (by omega) (by omega)).go fun w3 hk3 => ⟨_, _, _, _, _, rfl, (fun h => by cases h), fun _ => ⟨rfl, hk2.trans hk3⟩⟩
  obtain ⟨q, m, k, h1⟩ := h1
  exact h1.go fun w2 hk2 => ⟨_, _, _, _, _, _, rfl, (fun h => by cases h), fun _ => ⟨rfl, hk1.trans hk2⟩⟩
theorem ret88 (num : Int) (b : List UInt8) (p : Option Addr) (n c : Nat) (w : World) (hbl : b.length ≤ 300) (V : List UInt8)
    (hV : V = (if num = 2 then le32 ((b.length : Int) + 4) ++ [2] ++ le32 (b.length : Int) else le32 (b.length : Int) ++ [b8 num]) ++ b) (hnum : num ≠ 2 → (b8 num).toNat ≠ 2)
    (hr : ReadsB w p V) (hn : n = V.length) (hc : n ≤ c) :
    Calls prog 88 ⟨[rawV 5 p n c]⟩ w fun e w' => ∃ q k, e = .returned (.tuple ⟨[.int .u8 ((b8 num).toNat : Int), .slice q b.length k, .bool true]⟩) ∧ b.length ≤ k ∧ ReadsB w' q b ∧ Keeps w w' := by
  have := c88 5 p n c w (fun v w' => ∃ q k, v = .tuple ⟨[.int .u8 ((b8 num).toNat : Int), .slice q b.length k, .bool true]⟩ ∧ b.length ≤ k ∧ ReadsB w' q b ∧ Keeps w w') ?_
  · exact this.mono fun e w' ⟨v, he, q, k, hv, h⟩ => ⟨q, k, by rw [he, hv], h⟩
  unfold VC88
  intro w1 hw1
  have hk1 : Keeps w w1 := by rw [hw1]; exact (Keeps.refl w).alloc _
  have hv1 : Var w1 w.heap.size 92 [.int .u8 5, .slice p n c] := by rw [hw1]; exact var_alloc w _ 92
  refine ⟨5, hv1.lies.at 0 rfl rfl, (fun h => absurd h (by decide)), fun _ => ⟨p, n, c, hv1.lies.at 1 rfl rfl, ?_⟩⟩
  have h148 : Calls prog 148 ⟨[.slice p n c]⟩ w1 fun e w' => ∃ q k q2 n2 c2, e = .returned (.tuple ⟨[.int .u8 ((b8 num).toNat : Int), .slice q b.length k, .slice q2 n2 c2, .bool true]⟩) ∧ b.length ≤ k ∧ ReadsB w' q b ∧ Keeps w1 w' := by
    have := c148 p n c w1 (fun v w' => ∃ q k q2 n2 c2, v = .tuple ⟨[.int .u8 ((b8 num).toNat : Int), .slice q b.length k, .slice q2 n2 c2, .bool true]⟩ ∧ b.length ≤ k ∧ ReadsB w' q b ∧ Keeps w1 w') ?_
    · exact this.mono fun e w' ⟨v, he, q, k, q2, n2, c2, hv, h⟩ => ⟨q, k, q2, n2, c2, by rw [he, hv], h⟩
    unfold VC148
    have hr1 := hr.keeps hk1
    obtain ⟨N, y, rest, e, h0, h9, hy, hy2⟩ : ∃ (N : Int) (y : UInt8) (rest : List UInt8), V = le32 N ++ (y :: rest) ∧ 0 ≤ N ∧ N ≤ 2147483647 ∧ y = b8 num ∧
        ((num = 2 ∧ N = (b.length : Int) + 4 ∧ rest = le32 (b.length : Int) ++ b) ∨ (num ≠ 2 ∧ N = (b.length : Int) ∧ rest = b)) := by
      by_cases h2 : num = 2
      · rw [if_pos h2] at hV
        have e2 : (2 : UInt8) = b8 num := by rw [h2]; rfl
        exact ⟨_, 2, le32 (b.length : Int) ++ b, by rw [hV]; simp [List.append_assoc], by omega, by omega, e2, .inl ⟨h2, rfl, rfl⟩⟩
      · rw [if_neg h2] at hV
        exact ⟨_, b8 num, b, by rw [hV]; simp [List.append_assoc], by omega, by omega, rfl, .inr ⟨h2, rfl, rfl⟩⟩
    have hVl := congrArg List.length e
    simp only [List.length_append, le32_len, List.length_cons] at hVl
    rw [e] at hr1 hn
    have hnl := hn
    simp only [List.length_append, le32_len, List.length_cons] at hnl
    refine (ret73 p n c N (y :: rest) w1 h0 h9 hr1 hn hc).go fun w2 hk2 => ⟨_, _, _, _, _, rfl, (fun h => by cases h), fun _ => ⟨(fun h => by have := of_decide_eq_true h; omega), fun _ => ⟨⟨by omega, by omega⟩, ?_⟩⟩⟩
    have hk2d : Keeps w1 w2.drew := hk2.trans (Keeps.refl w2).drew
    have hdr := reads_drop (hr1.keeps hk2d) (by rw [← hn]; exact hc) 4
    have ed : (le32 N ++ (y :: rest)).drop 4 = y :: rest := List.drop_left' (le32_len _)
    rw [ed] at hdr
    obtain ⟨a, ha, hc0⟩ := hdr 0 y rfl
    have e0 : a.add 0 = a := by simp [Addr.add]
    rw [e0] at hc0
    refine ⟨a, ha, _, hc0, ⟨by omega, by omega, by omega⟩, _, i64w (by omega) (by omega), fun h => ?_, fun _ => ?_⟩
    · have := of_decide_eq_true h
      rcases hy2 with ⟨_, hN, hrest⟩ | ⟨_, hN, hrest⟩
      · have := congrArg List.length hrest
        simp only [List.length_append, le32_len] at this; omega
      · have := congrArg List.length hrest; omega
    intro Kx hK
    have hdr2 := reads_drop hdr (by simp only [List.length_cons]; omega : (y :: rest).length ≤ c - 4) 1
    have ed2 : (y :: rest).drop 1 = rest := rfl
    rw [ed2] at hdr2
    have fin : ∀ (q : Option Addr) (m k : Nat) (w3 : World), Keeps w1 w3 → ReadsB w3 q b → m = b.length → m ≤ k → Kx (y.toNat : Int) q m k (b.length : Int) w3 := by
      intro q m k w3 hk3 hq hm hmk
      refine hK _ q m k _ w3 ⟨⟨by omega, by omega⟩, ⟨by omega, by omega, by omega⟩, ?_⟩
      rw [hy, Int.toNat_natCast]
      exact ⟨q, k, _, _, _, rfl, by omega, hq, hk3.trans (Keeps.refl w3).drew⟩
    rcases hy2 with ⟨h2, hN, hrest⟩ | ⟨h2, hN, hrest⟩
    · have hrl := congrArg List.length hrest
      simp only [List.length_append, le32_len] at hrl
      refine ⟨fun _ => ?_, fun h => ?_⟩
      · rw [hrest] at hdr2
        refine (ret73 (slAddr (slAddr p c 4 1) (c - 4) 1 1) (n - 4 - 1) (c - 4 - 1) (b.length : Int) b w2.drew (by omega) (by omega) hdr2 (by simp only [List.length_append, le32_len]; omega) (by omega)).go fun w3 hk3 => ⟨_, _, _, _, _, rfl, (fun h => by cases h), fun _ => ⟨_, i64w (by omega) (by omega), (fun h => by have := of_decide_eq_true h; omega), fun _ => ?_⟩⟩
        have hdr3 := reads_drop (hdr2.keeps hk3) (by simp only [List.length_append, le32_len]; omega : (le32 (b.length : Int) ++ b).length ≤ c - 4 - 1) 4
        rw [List.drop_left' (le32_len _)] at hdr3
        exact fin _ _ _ w3 (hk2d.trans hk3) hdr3 (by omega) (by omega)
      · have := of_decide_eq_false h
        exact absurd (by rw [hy, h2]; rfl) this
    · refine ⟨fun h => ?_, fun _ => ?_⟩
      · have := of_decide_eq_true h
        rw [hy] at this
        exact absurd (by omega) (hnum h2)
      · rw [hrest] at hdr2
        rw [hN]
        have hrl := congrArg List.length hrest
        exact fin _ _ _ w2.drew hk2d hdr2 (by omega) (by omega)
  refine h148.mono ?_
  rintro e w2 ⟨q, k, q2, n2, c2, rfl, hk, hq, hk2⟩
  exact ⟨_, _, _, _, _, _, _, _, rfl, (fun h => by cases h), fun _ => ⟨q, k, rfl, hk, hq, hk1.trans hk2⟩⟩
theorem cellsT {l : List UInt8} (h : l.length = 12) : ∃ b0 b1 b2 b3 b4 b5 b6 b7 b8 b9 b10 b11, l = [b0, b1, b2, b3, b4, b5, b6, b7, b8, b9, b10, b11] := by
  rcases l with _ | ⟨b0, _ | ⟨b1, _ | ⟨b2, _ | ⟨b3, _ | ⟨b4, _ | ⟨b5, _ | ⟨b6, _ | ⟨b7, _ | ⟨b8, _ | ⟨b9, _ | ⟨b10, _ | ⟨b11, _ | ⟨b12, r⟩⟩⟩⟩⟩⟩⟩⟩⟩⟩⟩⟩⟩ <;> simp at h
  exact ⟨b0, b1, b2, b3, b4, b5, b6, b7, b8, b9, b10, b11, rfl⟩
theorem nT : cellsOf' prog 147 = some 12 := by kernel_rfl
theorem ret151 (p : Option Addr) (n c : Nat) (l r : List UInt8) (h : l.length = 12) (w : World) (hr : ReadsB w p (l ++ r)) (hn : n = (l ++ r).length) (hc : n ≤ c) :
    Ret 151 [.slice p n c] w (.tuple ⟨[.agg ⟨bc l⟩, .slice (slAddr p c 12 1) (n - 12) (c - 12), .bool true]⟩) := by
  refine Ret.of (c151 p n c w _ ?_)
  unfold VC151
  intro w1 hw1 w2 hw2
  have hnl := hn
  rw [List.length_append, h] at hnl
  have hk1 : Keeps w w1 := by rw [hw1]; exact (Keeps.refl w).alloc _
  have hk12 : Keeps w1 w2 := by rw [hw2]; exact (Keeps.refl w1).alloc _
  have hk2 : Keeps w w2.drew := (hk1.trans hk12).drew
  have hv0a : Var w1 w.heap.size 147 (List.replicate 12 (.int .u8 0)) := by rw [hw1]; exact var_alloc w _ 147
  have hv0 : Var w2.drew w.heap.size 147 (List.replicate 12 (.int .u8 0)) := hv0a.keeps hk12.drew
  have hv1 : Var w2.drew w1.heap.size 147 (List.replicate 12 (.int .u8 0)) := by
    have : Var w2 w1.heap.size 147 (List.replicate 12 (.int .u8 0)) := by rw [hw2]; exact var_alloc w1 _ 147
    exact this.keeps (Keeps.refl w2).drew
  have hs1 : w1.heap.size = w.heap.size + 1 := by rw [hw1]; simp
  refine ⟨fun hh => by have := of_decide_eq_true hh; omega, fun _ => ⟨[], trivial, ⟨by omega, by omega, by omega⟩, ?_⟩⟩
  have hs := reads_drop (hr.keeps hk2) (by rw [← hn]; exact hc) 0
  rw [List.drop_zero] at hs
  have hs := hs.left
  obtain ⟨b0, hb0⟩ : ∃ b, l[0]? = some b := ⟨_, List.getElem?_eq_getElem (by omega)⟩
  obtain ⟨a, ha, _⟩ := hs 0 b0 hb0
  rw [ha] at hs ⊢
  obtain ⟨i, hi, hsz, hby, hz⟩ := i5
  have hcopy := run_copy_row prog w2.drew 23 23 3 5 w1.heap.size 0 12 12 a (12 - 0) (c - 0) ⟨List.replicate 12 (.int .u8 0)⟩ 147 (bc l) u23 (by rw [hi]; simp [hsz]) hv1 (by rw [bc_length, h]; rfl)
    (fun j v hj => by obtain ⟨b, hb, rfl⟩ := bc_get hj; exact hs.at hb) (by rw [bc_length, h]; decide) (bc_one l)
  have hnew : (List.take 0 (⟨List.replicate 12 (.int .u8 0)⟩ : Array Value).toList ++ bc l ++ List.drop (0 + (bc l).length) (⟨List.replicate 12 (.int .u8 0)⟩ : Array Value).toList) = bc l := by
    rw [bc_length, h]; simp
  rw [hnew] at hcopy
  generalize hw4 : w2.drew.setRow w1.heap.size ⟨bc l⟩ = w4 at hcopy
  have hv4 : Var w4 w1.heap.size 147 (bc l) := by rw [← hw4]; exact setRow_heap w2.drew _ _ _ 147 (0, 0) hv1
  have hg4 : w2.drew.grownBy w4 (some w1.heap.size) := by
    rw [← hw4]
    exact ⟨rfl, rfl, rfl, by simp [World.setRow], fun k _ hk => setRow_other w2.drew _ k _ (fun e => hk (by rw [e]))⟩
  have hk4 : Keeps w w4 := Below.grown hk2 hg4 hk2.size (fun k hk => by cases hk; omega)
  have hv04 : Var w4 w.heap.size 147 (List.replicate 12 (.int .u8 0)) := by
    refine hv0.keep ?_
    rw [← hw4]
    exact setRow_other w2.drew _ _ _ (by omega)
  obtain ⟨w5, hst, hg5, hs5, hv5⟩ := store_row (ty := 147) (n := 12) (hv04.keeps (Keeps.refl w4).drew) nT (by simp) (by rw [bc_length, h]) (by rw [List.all_eq_true]; exact bc_one l)
  have hk5 : Keeps w w5 := Below.grown hk4.drew hg5 hk4.drew.size (fun k hk => by cases hk; exact Nat.le_refl _)
  have hrow5 := hv5.lies.row (t := 147) (by rw [bc_length, h]; exact nT)
  have hkept := hv4.lies.kept
  refine ⟨((bc l).length : Int), w4, ?_, rowFacts w1.heap.size 0 (bc l), hkept, ?_⟩
  · unfold BuiltinOk
    simp only [builtin, Sem.run_bind, hcopy, Result.andThen_ok, Sem.run_pure]
    rfl
  obtain ⟨c0, c1, c2, c3, c4, c5, c6, c7, c8, c9, c10, c11, rfl⟩ := cellsT h
  exact ⟨_, _, _, _, _, _, _, _, _, _, _, _, ⟨nT, fun i v hv => mem_rowFacts_add hv⟩, ⟨by omega, by omega, by omega⟩, w5, hst, _, hrow5, rfl, hk5⟩
theorem ret91 (p : Option Addr) (n c : Nat) (l : List UInt8) (h : l.length = 12) (w : World) (hr : ReadsB w p l) (hn : n = l.length) (hc : n ≤ c) :
    Ret 91 [rawV 7 p n c] w (.tuple ⟨[.agg ⟨bc l⟩, .bool true]⟩) := by
  refine Ret.of (c91 _ _ _ _ w _ ?_)
  unfold VC91
  intro w1 hw1 w2 hw2
  have hk1 : Keeps w w1 := by rw [hw1]; exact (Keeps.refl w).alloc _
  have hk12 : Keeps w1 w2 := by rw [hw2]; exact (Keeps.refl w1).alloc _
  have hv1 : Var w2 w.heap.size 92 [.int .u8 7, .slice p n c] := by
    have : Var w1 w.heap.size 92 [.int .u8 7, .slice p n c] := by rw [hw1]; exact var_alloc w _ 92
    exact this.keeps hk12
  have hv2 : Var w2 w1.heap.size 147 (List.replicate 12 (.int .u8 0)) := by rw [hw2]; exact var_alloc w1 _ 147
  have hs1 : w1.heap.size = w.heap.size + 1 := by rw [hw1]; simp
  have hk2 : Keeps w w2 := hk1.trans hk12
  refine ⟨7, hv1.lies.at 0 rfl rfl, (fun hh => absurd hh (by decide)), fun _ => ⟨p, n, c, hv1.lies.at 1 rfl rfl, ?_⟩⟩
  refine (ret151 p n c l [] h w2 (by rw [List.append_nil]; exact hr.keeps hk2) (by rw [List.append_nil]; exact hn) hc).go fun w4 hk4 => ⟨_, _, _, _, _, rfl, fun w5 hw5 => ?_⟩
  obtain ⟨w6, hst6, hk6, hs6, hv6⟩ := store_new (t := 147) (cs := bc l) hw5 nT rfl (by rw [bc_length, h]) (by rw [List.all_eq_true]; exact bc_one l)
  refine ⟨w6, hst6, (fun hh => by cases hh), fun _ => ?_⟩
  have hk26 : Keeps w2 w6 := hk4.trans hk6
  obtain ⟨w8, hst8, hg8, hs8, hv8⟩ := store_row (ty := 147) (n := 12) (cs := bc l) (hv2.keeps hk26) nT (by simp) (by rw [bc_length, h]) (by rw [List.all_eq_true]; exact bc_one l)
  have hk8 : Keeps w w8 := Below.grown (hk2.trans hk26) hg8 (hk2.trans hk26).size (fun k hk => by cases hk; omega)
  have hrow6 := hv6.lies.row (t := 147) (by rw [bc_length, h]; exact nT)
  have hrow8 := hv8.lies.row (t := 147) (by rw [bc_length, h]; exact nT)
  obtain ⟨c0, c1, c2, c3, c4, c5, c6, c7, c8, c9, c10, c11, rfl⟩ := cellsT h
  exact ⟨_, _, _, _, _, _, _, _, _, _, _, _, hrow6, w8, hst8, _, hrow8, rfl, hk8⟩
theorem ret158 (p : Option Addr) (n c : Nat) (s l : List UInt8) (hsl : s.length ≤ 1000000) (h : l.length = 12) (w : World) (hr : ReadsB w p (docText s ++ l)) (hn : n = (docText s ++ l).length) (hc : n ≤ c) :
    ∃ rm, Ret 158 [.slice p n c] w (.tuple ⟨[.string (mkS s), .agg ⟨bc l⟩, rm, .bool true]⟩) ∧ ∃ q m k, rm = .slice q m k := by
  obtain ⟨rm, h201, hrm⟩ : ∃ rm, (∀ w1, Keeps w w1 → Ret 201 [.slice p n c] w1 (.tuple ⟨[.string (mkS s), rm, .bool true]⟩)) ∧ rm = .slice (slAddr (slAddr p c 4 1) (c - 4) (s.length + 1) 1) (n - 4 - (s.length + 1)) (c - 4 - (s.length + 1)) := by
    refine ⟨_, fun w1 hk => ?_, rfl⟩
    obtain ⟨rm, h1, h2⟩ := ret201 s l p n c w1 hsl (hr.keeps hk) hn hc
    rw [h2] at h1
    exact h1
  have hnl := hn
  rw [List.length_append, docText_len, h] at hnl
  have hd1 := reads_drop hr (by rw [← hn]; exact hc) 4
  have e : (docText s ++ l).drop 4 = s ++ 0 :: l := by simp [docText, List.append_assoc, List.drop_left' (le32_len _)]
  rw [e] at hd1
  have hd2 := reads_drop hd1 (by simp only [List.length_append, List.length_cons]; omega : (s ++ 0 :: l).length ≤ c - 4) (s.length + 1)
  have ed : (s ++ 0 :: l).drop (s.length + 1) = l := by rw [List.drop_append]; simp
  rw [ed] at hd2
  refine ⟨.slice (slAddr (slAddr (slAddr p c 4 1) (c - 4) (s.length + 1) 1) (c - 4 - (s.length + 1)) 12 1) (n - 4 - (s.length + 1) - 12) (c - 4 - (s.length + 1) - 12), ?_, _, _, _, rfl⟩
  refine Ret.of (c158 p n c w _ ?_)
  unfold VC158
  intro w1 hw1
  have hk1 : Keeps w w1 := by rw [hw1]; exact (Keeps.refl w).alloc _
  have hv1 : Var w1 w.heap.size 147 (List.replicate 12 (.int .u8 0)) := by rw [hw1]; exact var_alloc w _ 147
  have h1 := h201 w1 hk1
  rw [hrm] at h1
  refine h1.go fun w2 hk2 => ⟨_, _, _, _, _, rfl, (fun hh => by cases hh), fun _ => ?_⟩
  refine (ret151 _ _ _ l [] h w2 (by rw [List.append_nil]; exact (hd2.keeps hk1).keeps hk2) (by rw [List.append_nil]; omega) (by omega)).go fun w4 hk4 => ⟨_, _, _, _, _, rfl, ?_⟩
  obtain ⟨w5, hst5, hg5, hs5, hv5⟩ := store_row (ty := 147) (n := 12) (cs := bc l) (hv1.keeps (hk2.trans hk4)) nT (by simp) (by rw [bc_length, h]) (by rw [List.all_eq_true]; exact bc_one l)
  have hk14 : Keeps w w4 := hk1.trans (hk2.trans hk4)
  have hk5 : Keeps w w5 := Below.grown hk14 hg5 hk14.size (fun k hk => by cases hk; exact Nat.le_refl _)
  refine ⟨w5, hst5, (fun hh => by cases hh), fun _ => ⟨rowFacts w.heap.size 0 (bc l), hv5.lies.kept, ?_⟩⟩
  obtain ⟨w8, hst8, hg8, hs8, hv8⟩ := store_row (ty := 147) (n := 12) (cs := bc l) (hv5.keeps (Keeps.refl w5).drew) nT (by rw [bc_length, h]) (by rw [bc_length, h]) (by rw [List.all_eq_true]; exact bc_one l)
  have hk8 : Keeps w w8 := Below.grown hk5.drew hg8 hk5.drew.size (fun k hk => by cases hk; exact Nat.le_refl _)
  have hrow8 := hv8.lies.row (t := 147) (by rw [bc_length, h]; exact nT)
  obtain ⟨c0, c1, c2, c3, c4, c5, c6, c7, c8, c9, c10, c11, rfl⟩ := cellsT h
  exact ⟨_, _, _, _, _, _, _, _, _, _, _, _, ⟨nT, fun i v hv => mem_rowFacts_add hv⟩, w8, hst8, _, hrow8, rfl, hk8⟩
theorem ret98 (p : Option Addr) (n c : Nat) (s l : List UInt8) (hsl : s.length ≤ 1000000) (h : l.length = 12) (w : World) (hr : ReadsB w p (docText s ++ l)) (hn : n = (docText s ++ l).length) (hc : n ≤ c) :
    Ret 98 [rawV 12 p n c] w (.tuple ⟨[.string (mkS s), .agg ⟨bc l⟩, .bool true]⟩) := by
  refine Ret.of (c98 _ _ _ _ w _ ?_)
  unfold VC98
  intro w1 hw1 w2 hw2
  have hk1 : Keeps w w1 := by rw [hw1]; exact (Keeps.refl w).alloc _
  have hk12 : Keeps w1 w2 := by rw [hw2]; exact (Keeps.refl w1).alloc _
  have hv1 : Var w2 w.heap.size 92 [.int .u8 12, .slice p n c] := by
    have : Var w1 w.heap.size 92 [.int .u8 12, .slice p n c] := by rw [hw1]; exact var_alloc w _ 92
    exact this.keeps hk12
  have hv2 : Var w2 w1.heap.size 147 (List.replicate 12 (.int .u8 0)) := by rw [hw2]; exact var_alloc w1 _ 147
  have hs1 : w1.heap.size = w.heap.size + 1 := by rw [hw1]; simp
  have hk2 : Keeps w w2 := hk1.trans hk12
  refine ⟨12, hv1.lies.at 0 rfl rfl, (fun hh => absurd hh (by decide)), fun _ => ⟨p, n, c, hv1.lies.at 1 rfl rfl, ?_⟩⟩
  obtain ⟨rm, h158, q, m, k, hrm⟩ := ret158 p n c s l hsl h w2 (hr.keeps hk2) hn hc
  rw [hrm] at h158
  refine h158.go fun w4 hk4 => ⟨_, _, _, _, _, _, rfl, fun w5 hw5 => ?_⟩
  obtain ⟨w6, hst6, hk6, hs6, hv6⟩ := store_new (t := 147) (cs := bc l) hw5 nT rfl (by rw [bc_length, h]) (by rw [List.all_eq_true]; exact bc_one l)
  refine ⟨w6, hst6, (fun hh => by cases hh), fun _ => ⟨rowFacts w4.heap.size 0 (bc l), hv6.lies.kept, ?_⟩⟩
  have hk26 : Keeps w2 w6.drew := (hk4.trans hk6).drew
  obtain ⟨w8, hst8, hg8, hs8, hv8⟩ := store_row (ty := 147) (n := 12) (cs := bc l) (hv2.keeps hk26) nT (by simp) (by rw [bc_length, h]) (by rw [List.all_eq_true]; exact bc_one l)
  have hk8 : Keeps w w8 := Below.grown (hk2.trans hk26) hg8 (hk2.trans hk26).size (fun k hk => by cases hk; omega)
  have hrow8 := hv8.lies.row (t := 147) (by rw [bc_length, h]; exact nT)
  obtain ⟨c0, c1, c2, c3, c4, c5, c6, c7, c8, c9, c10, c11, rfl⟩ := cellsT h
  exact ⟨_, _, _, _, _, _, _, _, _, _, _, _, ⟨nT, fun i v hv => mem_rowFacts_add hv⟩, w8, hst8, _, hrow8, rfl, hk8⟩
end Go.Proofs.Tryz
set_option linter.unusedVariables false
set_option maxRecDepth 100000
namespace Go.Proofs.Tryz
open Go.Vc
def VC90 (b : Int) (w : World) (R : RR) : Prop :=
 ∃ f : List (Addr × Value), Kept w f ∧
 (0 : Int) ≤ 4 ∧ ∃ x4 : Int, Int.fdiv b (2 ^ 4) = x4 ∧
 ∃ x5 : UInt8, ((0 : Int) ≤ x4 ∧ [48, 49, 50, 51, 52, 53, 54, 55, 56, 57, 97, 98, 99, 100, 101, 102][x4.toNat]? = some x5) ∧
 ∃ x7 : Int, bits .and .u8 b 15 = x7 ∧
 ∃ x8 : UInt8, ((0 : Int) ≤ x7 ∧ [48, 49, 50, 51, 52, 53, 54, 55, 56, 57, 97, 98, 99, 100, 101, 102][x7.toNat]? = some x8) ∧
 ∀ w1, w1 = w.drew.alloc (.cells ⟨[.int .u8 (x5.toNat : Int), .int .u8 (x8.toNat : Int)]⟩ 5) →
 ∃ x10 : Bs, ∃ w2, (convert 23 9 (.slice (some (⟨w.drew.heap.size, 0, none⟩)) 2 2)).run prog w1 = .ok (.string (mkS x10)) w2 ∧
 R (.string (mkS x10)) w2
def an90 : Ann :=
 .k .z
 (.k (.reg (.held [6, 7] (.take 0 (.q) (.take 1 (.q) (.take 2 (.q) (.take 3 (.q) (.take 4 (.q) (.take 5 (.q) (.run 6 (.q) (.run 7 (.s [.str]) (.take 8 (.q) .done) .done) .done)))))))))
 .l)
theorem c90 (b : Int) (w : World) (R : RR) (hvc : VC90 b w R) : CR 90 [.int .u8 b] w R :=
 vcc (fn := f90) (ann := an90) hvc (by kernel_rfl) (by kernel_rfl)
def VC92 (id0 : Int) (id1 : Int) (id2 : Int) (id3 : Int) (id4 : Int) (id5 : Int) (id6 : Int) (id7 : Int) (id8 : Int) (id9 : Int) (aa : Int) (ab : Int) (w : World) (R : RR) : Prop :=
 ∀ w1, w1 = w.alloc (.cells ⟨[.int .u8 id0, .int .u8 id1, .int .u8 id2, .int .u8 id3, .int .u8 id4, .int .u8 id5, .int .u8 id6, .int .u8 id7, .int .u8 id8, .int .u8 id9, .int .u8 aa, .int .u8 ab]⟩ 147) →
 ∀ w2, w2 = w1.alloc (.cells ⟨[.int .u8 0, .int .u8 0, .int .u8 0, .int .u8 0, .int .u8 0, .int .u8 0, .int .u8 0, .int .u8 0, .int .u8 0, .int .u8 0, .int .u8 0, .int .u8 0, .int .u8 0, .int .u8 0, .int .u8 0, .int .u8 0, .int .u8 0, .int .u8 0, .int .u8 0, .int .u8 0, .int .u8 0, .int .u8 0, .int .u8 0, .int .u8 0]⟩ 174) →
 ∃ f : List (Addr × Value), Kept w2 f ∧
 Calls prog 152 ⟨[.slice (some (⟨w1.heap.size, 0, none⟩)) 24 24, .slice (some (⟨w.heap.size, 0, none⟩)) 12 12]⟩ w2.drew fun e w3 => ∃ x6 : Int, e = .returned (.int .i64 x6) ∧
 ∃ x8 : Bs, ∃ w4, (convert 23 9 (.slice (some (⟨w1.heap.size, 0, none⟩)) 24 24)).run prog w3 = .ok (.string (mkS x8)) w4 ∧
 R (.string (mkS x8)) w4
def an92 : Ann :=
 .k .z
 (.k .z
 (.k (.reg (.held [2] (.take 0 (.q) (.take 1 (.q) (.run 2 (.s [.int .i64]) .done .done)))))
 (.k (.t [.q, .s [.str]])
 .l)))
theorem c92 (id0 : Int) (id1 : Int) (id2 : Int) (id3 : Int) (id4 : Int) (id5 : Int) (id6 : Int) (id7 : Int) (id8 : Int) (id9 : Int) (aa : Int) (ab : Int) (w : World) (R : RR) (hvc : VC92 id0 id1 id2 id3 id4 id5 id6 id7 id8 id9 aa ab w R) : CR 92 [.agg ⟨[.int .u8 id0, .int .u8 id1, .int .u8 id2, .int .u8 id3, .int .u8 id4, .int .u8 id5, .int .u8 id6, .int .u8 id7, .int .u8 id8, .int .u8 id9, .int .u8 aa, .int .u8 ab]⟩] w R :=
 vcc (fn := f92) (ann := an92) hvc (by kernel_rfl) (by kernel_rfl)
def VC97 (s : Bs) (w : World) (R : RR) : Prop :=
 ∃ (x5 : Ptr) (aa ab : Nat), ∃ w1, (convert 9 223 (.string (mkS s))).run prog w = .ok (.slice x5 aa ab) w1 ∧
 Calls prog 157 ⟨[.iface 224 (.slice x5 aa ab)]⟩ w1 fun e w2 => e = .returned (.tuple ⟨[]⟩) ∧
 ∃ x10 : Bs, ∃ w3, (convert 223 9 (.slice x5 aa ab)).run prog w2 = .ok (.string (mkS x10)) w3 ∧
 R (.string (mkS x10)) w3
def an97 : Ann :=
 .k .z
 (.k (.t [.q, .s [.slice]])
 (.k (.t [.q, .q, .s []])
 (.k (.t [.q, .s [.str]])
 .l)))
theorem c97 (s : Bs) (w : World) (R : RR) (hvc : VC97 s w R) : CR 97 [.string (mkS s)] w R :=
 vcc (fn := f97) (ann := an97) hvc (by kernel_rfl) (by kernel_rfl)
def VC82 (s : Bs) (w : World) (R : RR) : Prop :=
 ∀ w1, w1 = w.alloc (.cells ⟨[.slice none 0 0, .int .i64 0, .int .i8 0]⟩ 69) →
 Calls prog 140 ⟨[.pointer (some (⟨w.heap.size, 0, none⟩)), .int .u8 34]⟩ w1 fun e w2 => e = .returned .nilIface ∧
 ∃ Ix : Nat → Int → Int → World → Prop, (∃ m_2, Ix m_2 0 0 w2) ∧
 ∀ m, ∀ aa : Int, ∀ i : Int, ∀ w3, Ix m aa i w3 →
 (decide (i < (s.length : Int)) = true →
 ∃ x17 : UInt8, ((0 : Int) ≤ i ∧ s[i.toNat]? = some x17) ∧
 (decide ((x17.toNat : Int) < 128) = true →
 ∀ Kx : Int → World → Prop, (∀ i_1 : Int, ∀ w4,
 (∀ ab : World → Prop, (∀ w5,
 (∀ ac : Bool → World → Prop, (∀ x52 : Bool, ∀ w6,
 ((x52 = true →
 Calls prog 140 ⟨[.pointer (some (⟨w.heap.size, 0, none⟩)), .int .u8 92]⟩ w6 fun e w7 => e = .returned .nilIface ∧
 Calls prog 140 ⟨[.pointer (some (⟨w.heap.size, 0, none⟩)), .int .u8 (x17.toNat : Int)]⟩ w7 fun e w8 => e = .returned .nilIface ∧
 ∃ x79 : Int, IntKind.i64.wrap (i_1 + 1) = x79 ∧
 ∃ m_1, m_1 < m ∧ Ix m_1 x79 x79 w8) ∧ (x52 = false →
 (decide ((x17.toNat : Int) = 10) = true →
 Calls prog 140 ⟨[.pointer (some (⟨w.heap.size, 0, none⟩)), .int .u8 92]⟩ w6 fun e w9 => e = .returned .nilIface ∧
 Calls prog 140 ⟨[.pointer (some (⟨w.heap.size, 0, none⟩)), .int .u8 110]⟩ w9 fun e w10 => e = .returned .nilIface ∧
 ∃ ad : Int, IntKind.i64.wrap (i_1 + 1) = ad ∧
 ∃ m_1, m_1 < m ∧ Ix m_1 ad ad w10) ∧ (decide ((x17.toNat : Int) = 10) = false →
 (decide ((x17.toNat : Int) = 13) = true →
 Calls prog 140 ⟨[.pointer (some (⟨w.heap.size, 0, none⟩)), .int .u8 92]⟩ w6 fun e w11 => e = .returned .nilIface ∧
 Calls prog 140 ⟨[.pointer (some (⟨w.heap.size, 0, none⟩)), .int .u8 114]⟩ w11 fun e w12 => e = .returned .nilIface ∧
 ∃ ae : Int, IntKind.i64.wrap (i_1 + 1) = ae ∧
 ∃ m_1, m_1 < m ∧ Ix m_1 ae ae w12) ∧ (decide ((x17.toNat : Int) = 13) = false →
 (decide ((x17.toNat : Int) = 9) = true →
 Calls prog 140 ⟨[.pointer (some (⟨w.heap.size, 0, none⟩)), .int .u8 92]⟩ w6 fun e w13 => e = .returned .nilIface ∧
 Calls prog 140 ⟨[.pointer (some (⟨w.heap.size, 0, none⟩)), .int .u8 116]⟩ w13 fun e w14 => e = .returned .nilIface ∧
 ∃ af : Int, IntKind.i64.wrap (i_1 + 1) = af ∧
 ∃ m_1, m_1 < m ∧ Ix m_1 af af w14) ∧ (decide ((x17.toNat : Int) = 9) = false →
 (decide ((x17.toNat : Int) = 8) = true →
 Calls prog 140 ⟨[.pointer (some (⟨w.heap.size, 0, none⟩)), .int .u8 92]⟩ w6 fun e w15 => e = .returned .nilIface ∧
 Calls prog 140 ⟨[.pointer (some (⟨w.heap.size, 0, none⟩)), .int .u8 98]⟩ w15 fun e w16 => e = .returned .nilIface ∧
 ∃ ag : Int, IntKind.i64.wrap (i_1 + 1) = ag ∧
 ∃ m_1, m_1 < m ∧ Ix m_1 ag ag w16) ∧ (decide ((x17.toNat : Int) = 8) = false →
 (decide ((x17.toNat : Int) = 12) = true →
 Calls prog 140 ⟨[.pointer (some (⟨w.heap.size, 0, none⟩)), .int .u8 92]⟩ w6 fun e w17 => e = .returned .nilIface ∧
 Calls prog 140 ⟨[.pointer (some (⟨w.heap.size, 0, none⟩)), .int .u8 102]⟩ w17 fun e w18 => e = .returned .nilIface ∧
 ∃ ah : Int, IntKind.i64.wrap (i_1 + 1) = ah ∧
 ∃ m_1, m_1 < m ∧ Ix m_1 ah ah w18) ∧ (decide ((x17.toNat : Int) = 12) = false →
 Calls prog 141 ⟨[.pointer (some (⟨w.heap.size, 0, none⟩)), .string (mkS [92, 117, 48, 48])]⟩ w6 fun e w19 => ∃ x43 : Int, e = .returned (.tuple ⟨[.int .i64 x43, .nilIface]⟩) ∧
 (0 : Int) ≤ 4 ∧ ∃ x45 : Int, Int.fdiv (x17.toNat : Int) (2 ^ 4) = x45 ∧
 ∃ x46 : UInt8, ((0 : Int) ≤ x45 ∧ [48, 49, 50, 51, 52, 53, 54, 55, 56, 57, 97, 98, 99, 100, 101, 102][x45.toNat]? = some x46) ∧
 Calls prog 140 ⟨[.pointer (some (⟨w.heap.size, 0, none⟩)), .int .u8 (x46.toNat : Int)]⟩ w19 fun e w20 => e = .returned .nilIface ∧
 ∃ x49 : Int, bits .and .u8 (x17.toNat : Int) 15 = x49 ∧
 ∃ x50 : UInt8, ((0 : Int) ≤ x49 ∧ [48, 49, 50, 51, 52, 53, 54, 55, 56, 57, 97, 98, 99, 100, 101, 102][x49.toNat]? = some x50) ∧
 Calls prog 140 ⟨[.pointer (some (⟨w.heap.size, 0, none⟩)), .int .u8 (x50.toNat : Int)]⟩ w20 fun e w21 => e = .returned .nilIface ∧
 ∃ ai : Int, IntKind.i64.wrap (i_1 + 1) = ai ∧
 ∃ m_1, m_1 < m ∧ Ix m_1 ai ai w21))))))) → ac x52 w6) →
 (decide ((x17.toNat : Int) = 92) = true →
 ac (decide ((x17.toNat : Int) = 92)) w5) ∧ (decide ((x17.toNat : Int) = 92) = false →
 ac (decide ((x17.toNat : Int) = 34)) w5)) → ab w5) →
 (decide (aa < i_1) = true →
 ((0 : Int) ≤ aa ∧ aa ≤ i_1 ∧ i_1 ≤ (s.length : Int)) ∧
 Calls prog 141 ⟨[.pointer (some (⟨w.heap.size, 0, none⟩)), .string (mkS ((s.drop aa.toNat).take (i_1.toNat - aa.toNat)))]⟩ w4 fun e w22 => ∃ x41 : Int, e = .returned (.tuple ⟨[.int .i64 x41, .nilIface]⟩) ∧
 ab w22) ∧ (decide (aa < i_1) = false →
 ab w4)) → Kx i_1 w4) →
 ((0 : Int) ≤ (x17.toNat : Int) ∧ (x17.toNat : Int) < (128 : Int)) ∧
 ∃ x22 : Bool, w3.cell? ((⟨2, 0, none⟩ : Addr).add ((x17.toNat : Int).toNat * 1)) = some (.bool x22) ∧
 (x22 = true →
 ∃ x33 : Int, IntKind.i64.wrap (i + 1) = x33 ∧
 ∃ m_1, m_1 < m ∧ Ix m_1 aa x33 w3) ∧ (x22 = false →
 Kx i w3)) ∧ (decide ((x17.toNat : Int) < 128) = false →
 (0 ≤ i ∧ i ≤ (s.length : Int)) ∧
 Calls prog 142 ⟨[.string (mkS (s.drop i.toNat))]⟩ w3 fun e w23 => ∃ x85 aj : Int, e = .returned (.tuple ⟨[.int .i32 x85, .int .i64 aj]⟩) ∧
 ∀ ak : Int → Int → World → Prop, (∀ al : Int, ∀ i_2 : Int, ∀ w24,
 (∀ am : Bool → World → Prop, (∀ ao : Bool, ∀ w25,
 ((ao = true →
 ∀ ap : World → Prop, (∀ w26,
 (Calls prog 141 ⟨[.pointer (some (⟨w.heap.size, 0, none⟩)), .string (mkS [92, 117, 50, 48, 50])]⟩ w26 fun e w27 => ∃ aq : Int, e = .returned (.tuple ⟨[.int .i64 aq, .nilIface]⟩) ∧
 ∃ ar : Int, bits .and .i32 x85 15 = ar ∧
 ∃ au : UInt8, ((0 : Int) ≤ ar ∧ [48, 49, 50, 51, 52, 53, 54, 55, 56, 57, 97, 98, 99, 100, 101, 102][ar.toNat]? = some au) ∧
 Calls prog 140 ⟨[.pointer (some (⟨w.heap.size, 0, none⟩)), .int .u8 (au.toNat : Int)]⟩ w27 fun e w28 => e = .returned .nilIface ∧
 ∃ av : Int, IntKind.i64.wrap (i_2 + aj) = av ∧
 ∃ m_1, m_1 < m ∧ Ix m_1 av av w28) → ap w26) →
 (decide (al < i_2) = true →
 ((0 : Int) ≤ al ∧ al ≤ i_2 ∧ i_2 ≤ (s.length : Int)) ∧
 Calls prog 141 ⟨[.pointer (some (⟨w.heap.size, 0, none⟩)), .string (mkS ((s.drop al.toNat).take (i_2.toNat - al.toNat)))]⟩ w25 fun e w29 => ∃ aw : Int, e = .returned (.tuple ⟨[.int .i64 aw, .nilIface]⟩) ∧
 ap w29) ∧ (decide (al < i_2) = false →
 ap w25)) ∧ (ao = false →
 ∃ ax : Int, IntKind.i64.wrap (i_2 + aj) = ax ∧
 ∃ m_1, m_1 < m ∧ Ix m_1 al ax w25)) → am ao w25) →
 (decide (x85 = 8232) = true →
 am true w24) ∧ (decide (x85 = 8232) = false →
 am (decide (x85 = 8233)) w24)) → ak al i_2 w24) →
 ∀ ay : Bool → World → Prop, (∀ x93 : Bool, ∀ w30,
 ((x93 = true →
 ∀ az : World → Prop, (∀ w31,
 (Calls prog 141 ⟨[.pointer (some (⟨w.heap.size, 0, none⟩)), .string (mkS [92, 117, 102, 102, 102, 100])]⟩ w31 fun e w32 => ∃ ba : Int, e = .returned (.tuple ⟨[.int .i64 ba, .nilIface]⟩) ∧
 ∃ bb : Int, IntKind.i64.wrap (i + aj) = bb ∧
 ∃ m_1, m_1 < m ∧ Ix m_1 bb bb w32) → az w31) →
 (decide (aa < i) = true →
 ((0 : Int) ≤ aa ∧ aa ≤ i ∧ i ≤ (s.length : Int)) ∧
 Calls prog 141 ⟨[.pointer (some (⟨w.heap.size, 0, none⟩)), .string (mkS ((s.drop aa.toNat).take (i.toNat - aa.toNat)))]⟩ w30 fun e w33 => ∃ bc : Int, e = .returned (.tuple ⟨[.int .i64 bc, .nilIface]⟩) ∧
 az w33) ∧ (decide (aa < i) = false →
 az w30)) ∧ (x93 = false →
 ak aa i w30)) → ay x93 w30) →
 (decide (x85 = 65533) = true →
 ay (decide (aj = 1)) w23) ∧ (decide (x85 = 65533) = false →
 ay false w23))) ∧ (decide (i < (s.length : Int)) = false →
 (decide (aa < (s.length : Int)) = true →
 (0 ≤ aa ∧ aa ≤ (s.length : Int)) ∧
 Calls prog 141 ⟨[.pointer (some (⟨w.heap.size, 0, none⟩)), .string (mkS (s.drop aa.toNat))]⟩ w3 fun e w34 => ∃ bd : Int, e = .returned (.tuple ⟨[.int .i64 bd, .nilIface]⟩) ∧
 Calls prog 140 ⟨[.pointer (some (⟨w.heap.size, 0, none⟩)), .int .u8 34]⟩ w34 fun e w35 => e = .returned .nilIface ∧
 Calls prog 42 ⟨[.pointer (some (⟨w.heap.size, 0, none⟩))]⟩ w35 fun e w36 => ∃ be : Bs, e = .returned (.string (mkS be)) ∧
 R (.string (mkS be)) w36) ∧ (decide (aa < (s.length : Int)) = false →
 Calls prog 140 ⟨[.pointer (some (⟨w.heap.size, 0, none⟩)), .int .u8 34]⟩ w3 fun e w37 => e = .returned .nilIface ∧
 Calls prog 42 ⟨[.pointer (some (⟨w.heap.size, 0, none⟩))]⟩ w37 fun e w38 => ∃ bf : Bs, e = .returned (.string (mkS bf)) ∧
 R (.string (mkS bf)) w38))
def an82 : Ann :=
 .k .z
 (.k .z
 (.k .z
 (.k (.t [.s [.nil]])
 (.k .z
 (.k (.k .z
 (.block (.loop [(5, .int .i64), (6, .int .i64)] [0, 3, 4] (.k (.k .z
 (.cond 1 2 .l .l))
 (.block (.k (.k .z
 (.k .z
 (.cond 3 4 (.cut [(6, .int .i64)] [0, 3, 4, 5, 7] (.k (.t [.q, .q, .s [.bool], .q, .gs .n 21 22])
 (.on 22 (.no .l) (.yes .zl)))
 (.cut [] [0, 3, 4, 6, 7] (.k .z
 (.cond 19 20 (.t [.q, .q, .q, .q, .s [.int .i64, .nil]]) .l))
 (.k (.k .z
 (.block (.cut [(52, .bool)] [0, 3, 4, 6, 7, 42] (.k .z
 (.cond 17 18 .l .z))
 (.cond 5 6 (.k (.t [.s [.nil]])
 (.t [.q, .s [.nil]])) (.k .z
 (.cond 7 8 (.k (.t [.s [.nil]])
 (.t [.s [.nil]])) (.k .z
 (.cond 9 10 (.k (.t [.s [.nil]])
 (.t [.s [.nil]])) (.k .z
 (.cond 11 12 (.k (.t [.s [.nil]])
 (.t [.s [.nil]])) (.k .z
 (.cond 13 14 (.k (.t [.s [.nil]])
 (.t [.s [.nil]])) (.k .z
 (.cond 15 16 (.k (.t [.s [.nil]])
 (.t [.s [.nil]])) (.k (.t [.s [.int .i64, .nil]])
 (.k (.t [.q, .q, .q, .s [.nil]])
 (.t [.q, .q, .q, .s [.nil]])))))))))))))))))
 (.k .z
 .zl)))) .l)))
 (.k (.t [.q, .q, .q, .s [.int .i32, .int .i64]])
 (.cut [(5, .int .i64), (6, .int .i64)] [0, 3, 4, 8, 9] (.cut [(93, .bool)] [0, 3, 4, 5, 6, 8, 9] (.t [.q, .q, .q, .gs .n 33 34])
 (.cond 29 30 (.cut [] [0, 3, 4, 6, 9] (.k .z
 (.cond 31 32 (.t [.q, .q, .q, .q, .s [.int .i64, .nil]]) .l))
 (.k (.t [.s [.int .i64, .nil]])
 (.k .z
 .zl))) .l))
 (.k (.cut [(112, .bool)] [0, 3, 4, 5, 6, 8, 9] (.t [.q, .q, .q, .gs .n 27 28])
 (.cond 23 24 (.cut [] [0, 3, 4, 6, 8, 9] (.k .z
 (.cond 25 26 (.t [.q, .q, .q, .q, .s [.int .i64, .nil]]) .l))
 (.k (.t [.s [.int .i64, .nil]])
 (.k (.t [.q, .q, .q, .s [.nil]])
 (.k .z
 .zl)))) .l))
 .z)))))))))
 (.k (.k .z
 (.cond 35 36 (.t [.q, .q, .q, .s [.int .i64, .nil]]) .l))
 (.k (.t [.s [.nil]])
 (.k (.t [.s [.str]])
 .l))))))))
theorem c82 (s : Bs) (w : World) (R : RR) (hvc : VC82 s w R) : CR 82 [.string (mkS s)] w R :=
 vcc (fn := f82) (ann := an82) hvc (by kernel_rfl) (by kernel_rfl)
end Go.Proofs.Tryz
