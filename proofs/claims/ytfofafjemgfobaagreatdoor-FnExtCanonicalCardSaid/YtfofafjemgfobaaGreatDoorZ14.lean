/- Parts of a proof, joined: A9, A10, A13, VE, A14. -/
import Derived.Test.YtfofafjemgfobaaGreatDoorZ13
import Derived.Test.YtfofafjemgfobaaGreatDoorZ4
import Derived.Test.YtfofafjemgfobaaGreatDoorZ11
import Derived.Lib.ItoaMem
import Derived.Lib.ItoaLen
/- The reference's numbers in decimal of 128 bits: what 128 bits say, and do they fit. -/
set_option linter.unusedVariables false
namespace Go.Proofs.Tryz
open Go.Vc Go.RowKit

/-- The four cells of a Dec. -/
def decCells (k : Int) (neg : Bool) (ds : List UInt8) (e : Int) : List Value := [.int .i64 k, .bool neg, .string (mkS ds), .int .i64 e]
structure Dec where
  kind : Int
  neg : Bool
  ds : List UInt8
  exp : Int
def Dec.cells (d : Dec) : List Value := decCells d.kind d.neg d.ds d.exp
/-- What 128 bits say. -/
def decOf (hi lo : Nat) : Dec :=
  if hi / 2 ^ 58 % 32 = 30 then ⟨1, decide (hi / 2 ^ 63 = 1), [], 0⟩
  else if hi / 2 ^ 58 % 32 = 31 then ⟨2, decide (hi / 2 ^ 63 = 1), [], 0⟩
  else if hi / 2 ^ 61 % 4 = 3 then ⟨0, decide (hi / 2 ^ 63 = 1), [48], ((hi / 2 ^ 47 % 16384 : Nat) : Int) - 6176⟩
  else ⟨0, decide (hi / 2 ^ 63 = 1), decF (num (hi % 2 ^ 49) lo), ((hi / 2 ^ 49 % 16384 : Nat) : Int) - 6176⟩

theorem and31u (a : Nat) (h : a < 18446744073709551616) : bits .and .u64 (a : Int) 31 = ((a % 32 : Nat) : Int) := u64_mask a 5 h (by decide)
theorem and3u (a : Nat) (h : a < 18446744073709551616) : bits .and .u64 (a : Int) 3 = ((a % 4 : Nat) : Int) := u64_mask a 2 h (by decide)
theorem and14u (a : Nat) (h : a < 18446744073709551616) : bits .and .u64 (a : Int) 16383 = ((a % 16384 : Nat) : Int) := u64_mask a 14 h (by decide)
theorem and49u (a : Nat) (h : a < 18446744073709551616) : bits .and .u64 (a : Int) 562949953421311 = ((a % 2 ^ 49 : Nat) : Int) := u64_mask a 49 h (by decide)
theorem div_lt64 (a k : Nat) (h : a < 18446744073709551616) : a / 2 ^ k < 18446744073709551616 := Nat.lt_of_le_of_lt (Nat.div_le_self _ _) h

theorem decide_cast (a b : Nat) : decide (((a : Nat) : Int) = ((b : Nat) : Int)) = decide (a = b) := by
  rw [decide_eq_decide]; omega

theorem ret38 (hi lo : Nat) (h1 : hi < 18446744073709551616) (h2 : lo < 18446744073709551616) (w : World) : Ret 38 [.int .u64 (hi : Int), .int .u64 (lo : Int)] w (.agg ⟨(decOf hi lo).cells⟩) := by
  refine Ret.of (c38 _ _ w _ ?_)
  unfold VC38
  intro w1 hw1
  have hk1 : Keeps w w1 := by rw [hw1]; exact (Keeps.refl w).alloc _
  have hv1 : Var w1 w.heap.size 64 (decCells 0 false [] 0) := by rw [hw1]; exact var_alloc w _ 64
  have hs1 : w1.heap.size = w.heap.size + 1 := by rw [hw1]; simp
  refine ⟨by decide, _, fdiv_nat hi 63, fun w2 hw2 => ?_⟩
  have e63 : decide (((hi / 2 ^ 63 : Nat) : Int) = 1) = decide (hi / 2 ^ 63 = 1) := decide_cast _ 1
  rw [e63]
  generalize hneg : decide (hi / 2 ^ 63 = 1) = neg
  obtain ⟨w3, hst, hk3, hs3, hv3⟩ := store_new (t := 64) (cs := decCells 0 neg [] 0) hw2 n64 rfl rfl rfl
  have hv13 := hv1.keeps hk3
  have hk3' := hk1.trans hk3
  -- the end: the variable is handed back
  have fin : ∀ (w' : World) (k : Int) (ng : Bool) (ds : List UInt8) (e : Int), Keeps w w' → Var w' w.heap.size 64 (decCells 0 false [] 0) → Var w' w1.heap.size 64 (decCells k ng ds e) → decOf hi lo = ⟨k, ng, ds, e⟩ →
      ∃ x16 : Int, ∃ x16_1 : Bool, ∃ x16_2 : List UInt8, ∃ x16_3 : Int, LoadsRow prog 64 w' ⟨w1.heap.size, 0, none⟩ [.int .i64 x16, .bool x16_1, .string (mkS x16_2), .int .i64 x16_3] ∧ 
    ∃ w5, (Instr.storeAt 64 (.pointer (some ⟨w.heap.size, 0, none⟩)) (.agg ⟨[.int .i64 x16, .bool x16_1, .string (mkS x16_2), .int .i64 x16_3]⟩)).run prog w' = .ok () w5 ∧ 
    ∃ r : List Value, LoadsRow prog 64 w5 ⟨w.heap.size, 0, none⟩ r ∧ (Value.agg ⟨r⟩ = .agg ⟨(decOf hi lo).cells⟩ ∧ Keeps w w5) := by
    intro w' k ng ds e hk hva hvb hd
    obtain ⟨w5, hr, hg, hs, hv5⟩ := store_row hva n64 (zs := decCells 0 false [] 0) (cs := decCells k ng ds e) rfl rfl rfl
    refine ⟨k, ng, ds, e, hvb.lies.row n64, w5, hr, _, hv5.lies.row n64, by rw [hd]; rfl, ?_⟩
    exact Below.grown hk hg hk.size (fun j hj => by simp at hj; omega)
  have setk : ∀ (w' w'' : World) (j : Nat) (v : Value) (cs : List Value), Keeps w w' → Var w' w.heap.size 64 (decCells 0 false [] 0) → Var w' w1.heap.size 64 cs → w'' = w'.setCell ⟨w1.heap.size, j, none⟩ v →
      Keeps w w'' ∧ Var w'' w.heap.size 64 (decCells 0 false [] 0) ∧ Var w'' w1.heap.size 64 (cs.set j v) := by
    rintro w' w'' j v cs hk hva hvb rfl
    refine ⟨Below.setCell hk (by simp only; omega) v, hva.keep ?_, hvb.set j v⟩
    exact Below.heap_setCell _ _ _ _ (by simp only; omega)
  have d58 := div_lt64 hi 58 h1
  have d61 := div_lt64 hi 61 h1
  have d47 := div_lt64 hi 47 h1
  have d49 := div_lt64 hi 49 h1
  have a58 := and31u _ d58
  have a61 := and3u _ d61
  refine ⟨w3, hst, by decide, _, fdiv_nat hi 58, _, a58, fun h30 => ?_, fun h30 => ⟨fun h31 => ?_, fun h31 => ⟨by decide, _, fdiv_nat hi 61, _, a61, fun h3 => ?_, fun h3 => ?_⟩⟩⟩
  · have h30 : hi / 2 ^ 58 % 32 = 30 := by have := of_decide_eq_true h30; omega
    refine ⟨hv3.can (show _ < 4 by decide) rfl, fun w4 hw4 => ?_⟩
    obtain ⟨k4, va4, vb4⟩ := setk w3 w4 0 _ _ hk3' hv13 hv3 hw4
    exact fin w4 1 neg [] 0 k4 va4 vb4 (by unfold decOf; rw [if_pos h30, hneg])
  · have h30 : ¬ hi / 2 ^ 58 % 32 = 30 := by have := of_decide_eq_false h30; omega
    have h31 : hi / 2 ^ 58 % 32 = 31 := by have := of_decide_eq_true h31; omega
    refine ⟨hv3.can (show _ < 4 by decide) rfl, fun w4 hw4 => ?_⟩
    obtain ⟨k4, va4, vb4⟩ := setk w3 w4 0 _ _ hk3' hv13 hv3 hw4
    exact fin w4 2 neg [] 0 k4 va4 vb4 (by unfold decOf; rw [if_neg h30, if_pos h31, hneg])
  · have h30 : ¬ hi / 2 ^ 58 % 32 = 30 := by have := of_decide_eq_false h30; omega
    have h31 : ¬ hi / 2 ^ 58 % 32 = 31 := by have := of_decide_eq_false h31; omega
    have h3 : hi / 2 ^ 61 % 4 = 3 := by have := of_decide_eq_true h3; omega
    have hlt : hi / 2 ^ 47 % 16384 < 16384 := Nat.mod_lt _ (by decide)
    have hd : decOf hi lo = ⟨0, neg, [48], ((hi / 2 ^ 47 % 16384 : Nat) : Int) - 6176⟩ := by unfold decOf; rw [if_neg h30, if_neg h31, if_pos h3, hneg]
    refine ⟨by decide, _, fdiv_nat hi 47, _, and14u _ d47, ?_⟩
    generalize hi / 2 ^ 47 % 16384 = e at *
    refine ⟨_, i64w (n := (e : Int)) (by omega) (by omega), _, i64w (n := (e : Int) + -6176) (by omega) (by omega), hv3.can (show _ < 4 by decide) rfl, fun w8 hw8 => ?_⟩
    obtain ⟨k8, va8, vb8⟩ := setk w3 w8 2 _ _ hk3' hv13 hv3 hw8
    refine ⟨vb8.can (show _ < 4 by decide) rfl, fun w9 hw9 => ?_⟩
    obtain ⟨k9, va9, vb9⟩ := setk w8 w9 3 _ _ k8 va8 vb8 hw9
    exact fin w9 0 neg [48] ((e : Int) + -6176) k9 va9 vb9 hd
  · have h30 : ¬ hi / 2 ^ 58 % 32 = 30 := by have := of_decide_eq_false h30; omega
    have h31 : ¬ hi / 2 ^ 58 % 32 = 31 := by have := of_decide_eq_false h31; omega
    have h3 : ¬ hi / 2 ^ 61 % 4 = 3 := by have := of_decide_eq_false h3; omega
    have hlt : hi / 2 ^ 49 % 16384 < 16384 := Nat.mod_lt _ (by decide)
    have hd : decOf hi lo = ⟨0, neg, decF (num (hi % 2 ^ 49) lo), ((hi / 2 ^ 49 % 16384 : Nat) : Int) - 6176⟩ := by unfold decOf; rw [if_neg h30, if_neg h31, if_neg h3, hneg]
    have hm49 : hi % 2 ^ 49 < 18446744073709551616 := Nat.lt_of_le_of_lt (Nat.mod_le _ _) h1
    refine ⟨_, and49u hi h1, ?_⟩
    refine (ret66 (hi % 2 ^ 49) lo hm49 h2 w3).go fun w11 hk11 => ⟨_, rfl, by decide, _, fdiv_nat hi 49, _, and14u _ d49, ?_⟩
    have hv11 := hv3.keeps hk11
    have hva11 := hv13.keeps hk11
    have hk11' := hk3'.trans hk11
    generalize decF (num (hi % 2 ^ 49) lo) = ds at *
    generalize hi / 2 ^ 49 % 16384 = e at *
    refine ⟨_, i64w (n := (e : Int)) (by omega) (by omega), _, i64w (n := (e : Int) + -6176) (by omega) (by omega), hv11.can (show _ < 4 by decide) rfl, fun w12 hw12 => ?_⟩
    obtain ⟨k8, va8, vb8⟩ := setk w11 w12 2 _ _ hk11' hva11 hv11 hw12
    refine ⟨vb8.can (show _ < 4 by decide) rfl, fun w13 hw13 => ?_⟩
    obtain ⟨k9, va9, vb9⟩ := setk w12 w13 3 _ _ k8 va8 vb8 hw13
    exact fin w13 0 neg ds ((e : Int) + -6176) k9 va9 vb9 hd
end Go.Proofs.Tryz
/- Does a number in decimal of 128 bits fit. -/
set_option linter.unusedVariables false
namespace Go.Proofs.Tryz
open Go.Vc Go.RowKit

/-- Called so, the function returns something of which 'P' speaks, and what was there is as it was. -/
def RetP (k : Nat) (args : List Value) (w : World) (P : Value → Prop) : Prop := Calls prog k ⟨args⟩ w fun e w' => ∃ v, e = .returned v ∧ P v ∧ Keeps w w'
theorem RetP.of {k : Nat} {args : List Value} {w : World} {P : Value → Prop} (h : Calls prog k ⟨args⟩ w fun e w' => ∃ u, e = .returned u ∧ (P u ∧ Keeps w w')) : RetP k args w P := h
theorem RetP.go {k : Nat} {args : List Value} {w : World} {P : Value → Prop} (h : RetP k args w P) {Q : Ending → World → Prop} (hq : ∀ v w', P v → Keeps w w' → Q (.returned v) w') : Calls prog k ⟨args⟩ w Q :=
  Calls.mono h fun e w' ⟨v, he, hp, hk⟩ => by rw [he]; exact hq v w' hp hk

theorem ret111 (d : Dec) (w : World) (hl : d.ds.length ≤ 1099511627776) : RetB 111 [.agg ⟨d.cells⟩] w (fun b => b = true → d.kind = 0 → d.ds.length ≤ 34) := by
  refine RetB.of (c111 _ _ _ _ w (fun u w' => ∃ b, u = .bool b ∧ (b = true → d.kind = 0 → d.ds.length ≤ 34) ∧ Keeps w w') ?_)
  unfold VC111
  intro w1 hw1
  have hv : Var w1 w.heap.size 64 d.cells := by rw [hw1]; exact var_alloc w _ 64
  have hk : Keeps w w1 := by rw [hw1]; exact (Keeps.refl w).alloc _
  have no : ∀ w', Keeps w w' → ∃ b, Value.bool false = .bool b ∧ (b = true → d.kind = 0 → d.ds.length ≤ 34) ∧ Keeps w w' := fun w' hk => ⟨false, rfl, (fun h => by cases h), hk⟩
  refine ⟨d.kind, hv.lies.at 0 rfl rfl, fun h0 => ?_, fun h0 => ?_⟩
  · have h0 : ¬ d.kind = 0 := by simpa using h0
    exact ⟨d.kind, hv.lies.at 0 rfl rfl, fun _ => ⟨true, rfl, fun _ e => (h0 e).elim, hk⟩, fun _ => ⟨d.kind, hv.lies.at 0 rfl rfl, _, rfl, fun _ e => (h0 e).elim, hk⟩⟩
  · intro K hK
    have key : d.ds.length ≤ 34 → K w1 := by
      intro h34
      refine hK w1 ⟨fun m i w' => w' = w1 ∧ ∃ k : Nat, i = k ∧ k ≤ d.ds.length ∧ m = d.ds.length - k, ⟨d.ds.length, rfl, 0, rfl, by omega, rfl⟩, ?_⟩
      rintro m i w' ⟨rfl, k, rfl, hk', rfl⟩
      refine ⟨d.ds, hv.lies.at 2 rfl rfl, fun h => ?_, fun h => ⟨true, rfl, fun _ _ => h34, hk⟩⟩
      have h := of_decide_eq_true h
      have hget := List.getElem?_eq_getElem (show k < d.ds.length by omega)
      exact ⟨d.ds, hv.lies.at 2 rfl rfl, _, ⟨by omega, hget⟩, fun _ => no _ hk, fun _ => ⟨d.ds, hv.lies.at 2 rfl rfl, _, ⟨by omega, hget⟩, fun _ => no _ hk, fun _ => ⟨_, i64w (by omega) (by omega), d.ds.length - (k + 1), by omega, rfl, k + 1, by omega, by omega, rfl⟩⟩⟩
    refine ⟨d.ds, hv.lies.at 2 rfl rfl, fun _ => no _ hk, fun h1 => ⟨d.ds, hv.lies.at 2 rfl rfl, fun _ => no _ hk, fun h34 => ⟨d.ds, hv.lies.at 2 rfl rfl, fun h2 => ?_, fun h2 => ?_⟩⟩⟩
    · have h34 : d.ds.length ≤ 34 := by have := of_decide_eq_false h34; omega
      have hget := List.getElem?_eq_getElem (show 0 < d.ds.length by have := of_decide_eq_true h2; omega)
      exact ⟨d.ds, hv.lies.at 2 rfl rfl, _, ⟨by decide, hget⟩, fun _ => no _ hk, fun _ => ⟨d.exp, hv.lies.at 3 rfl rfl, fun _ => no _ hk, fun _ => ⟨d.exp, hv.lies.at 3 rfl rfl, fun _ => no _ hk, fun _ => key h34⟩⟩⟩
    · have h34 : d.ds.length ≤ 34 := by have := of_decide_eq_false h34; omega
      exact ⟨d.exp, hv.lies.at 3 rfl rfl, fun _ => no _ hk, fun _ => ⟨d.exp, hv.lies.at 3 rfl rfl, fun _ => no _ hk, fun _ => key h34⟩⟩

theorem ret169 (hi lo digit : Int) (w : World) : RetP 169 [.int .u64 hi, .int .u64 lo, .int .u64 digit] w (fun v => ∃ (a b : Int) (c : Bool), v = .tuple ⟨[.int .u64 a, .int .u64 b, .bool c]⟩) := by
  refine RetP.of (c169 hi lo digit w _ ?_)
  unfold VC169
  refine ⟨_, rfl, by decide, _, rfl, _, rfl, by decide, _, rfl, fun w1 hw1 => ?_⟩
  generalize bits .and .u64 lo 4294967295 = a0
  generalize Int.fdiv lo (2 ^ 32) = a1
  generalize bits .and .u64 hi 4294967295 = a2
  generalize Int.fdiv hi (2 ^ 32) = a3
  obtain ⟨w2, hst, hk2, hs2, hv2⟩ := store_new (t := 247) (cs := [.int .u64 a0, .int .u64 a1, .int .u64 a2, .int .u64 a3]) hw1 n247 rfl rfl rfl
  refine ⟨w2, hst, fun m c i w3 => Keeps w w3 ∧ (∃ b0 b1 b2 b3 : Int, Var w3 w.heap.size 247 [.int .u64 b0, .int .u64 b1, .int .u64 b2, .int .u64 b3]) ∧ ∃ k : Nat, i = k ∧ k ≤ 4 ∧ m = 4 - k, ⟨4, hk2, ⟨a0, a1, a2, a3, hv2⟩, 0, rfl, by decide, rfl⟩, ?_⟩
  rintro m c i w3 ⟨hk3, ⟨b0, b1, b2, b3, hv3⟩, k, rfl, hk4, rfl⟩
  refine ⟨fun h => ?_, fun h => ?_⟩
  · have h := of_decide_eq_true h
    have hklt : k < 4 := by omega
    obtain ⟨x, hx⟩ : ∃ x, ([.int .u64 b0, .int .u64 b1, .int .u64 b2, .int .u64 b3] : List Value)[k]? = some (.int .u64 x) := by
      rcases (show k = 0 ∨ k = 1 ∨ k = 2 ∨ k = 3 by omega) with rfl | rfl | rfl | rfl <;> exact ⟨_, rfl⟩
    have ek : (k : Int).toNat * 1 = k := by simp
    rw [ek, add_at, Nat.zero_add]
    refine ⟨⟨by omega, by omega⟩, x, hv3.lies.at k hx (by omega), _, rfl, _, rfl, _, rfl, by decide, _, rfl, ⟨by omega, by omega⟩, hv3.can (by simpa using hklt) rfl, fun w4 hw4 => ⟨_, i64w (n := (k : Int) + 1) (by omega) (by omega), 4 - (k + 1), by omega, ?_, ?_, k + 1, by omega, by omega, rfl⟩⟩
    · rw [hw4]; exact Below.setCell hk3 (Nat.le_refl _) _
    · have := hv3.set k (.int .u64 (bits .and .u64 (IntKind.u64.wrap (IntKind.u64.wrap (x * 10) + c)) 4294967295))
      rw [hw4]
      rcases (show k = 0 ∨ k = 1 ∨ k = 2 ∨ k = 3 by omega) with rfl | rfl | rfl | rfl <;> exact ⟨_, _, _, _, this⟩
  · exact ⟨by decide, b2, hv3.lies.at 2 rfl rfl, by decide, b3, hv3.lies.at 3 rfl rfl, by decide, _, rfl, _, rfl, by decide, b0, hv3.lies.at 0 rfl rfl, by decide, b1, hv3.lies.at 1 rfl rfl, by decide, _, rfl, _, rfl, ⟨_, _, _, rfl⟩, hk3.drew⟩

theorem ret112 (d : Dec) (w : World) (hl : d.ds.length ≤ 1099511627776) : RetP 112 [.agg ⟨d.cells⟩] w (fun v => ∃ (a b : Int), v = .tuple ⟨[.int .u64 a, .int .u64 b]⟩) := by
  refine RetP.of (c112 _ _ _ _ w _ ?_)
  unfold VC112
  intro w1 hw1
  have hv : Var w1 w.heap.size 64 d.cells := by rw [hw1]; exact var_alloc w _ 64
  have hk : Keeps w w1 := by rw [hw1]; exact (Keeps.refl w).alloc _
  intro K hK
  have key : ∀ sign, K sign w1 := by
    intro sign
    refine hK sign w1 ⟨d.kind, hv.lies.at 0 rfl rfl, fun _ => ⟨_, rfl, ⟨_, _, rfl⟩, hk⟩, fun _ => ⟨fun _ => ⟨⟨_, _, rfl⟩, hk⟩, fun _ => ?_⟩⟩
    refine ⟨fun m h l i w3 => Keeps w1 w3 ∧ ∃ k : Nat, i = k ∧ k ≤ d.ds.length ∧ m = d.ds.length - k, ⟨d.ds.length, Keeps.refl _, 0, rfl, by omega, rfl⟩, ?_⟩
    rintro m h l i w3 ⟨hk3, k, rfl, hk', rfl⟩
    have hv3 := hv.keeps hk3
    refine ⟨d.ds, hv3.lies.at 2 rfl rfl, fun hlt => ?_, fun _ => ⟨d.exp, hv3.lies.at 3 rfl rfl, _, rfl, _, rfl, by decide, _, rfl, _, rfl, _, rfl, ⟨_, _, rfl⟩, hk.trans hk3⟩⟩
    have hlt := of_decide_eq_true hlt
    have hget := List.getElem?_eq_getElem (show k < d.ds.length by omega)
    refine ⟨d.ds, hv3.lies.at 2 rfl rfl, _, ⟨by omega, hget⟩, _, rfl, _, rfl, ?_⟩
    refine (ret169 h l _ w3).go fun v w4 ⟨a, b, c, hv4⟩ hk4 => ⟨a, b, c, by rw [hv4], _, i64w (by omega) (by omega), d.ds.length - (k + 1), by omega, hk3.trans hk4, k + 1, by omega, by omega, rfl⟩
  exact ⟨d.neg, hv.lies.at 1 rfl rfl, fun _ => key _, fun _ => key _⟩

theorem decF_len (n k : Nat) (hk : 1 ≤ k) : (decF n).length ≤ k ↔ n < 10 ^ k := by
  unfold decF
  split
  · rename_i h; subst h
    simp only [List.length_singleton]
    exact ⟨fun _ => Nat.pow_pos (by decide), fun _ => hk⟩
  · exact digs_len k n
theorem decF_small {hi lo : Nat} (h1 : hi < 18446744073709551616) (h2 : lo < 18446744073709551616) : (decF (num hi lo)).length ≤ 40 :=
  (decF_len _ 40 (by decide)).2 (Nat.lt_of_lt_of_le (num_lt h1 h2) (by decide))
theorem decOf_len (hi lo : Nat) (h1 : hi < 18446744073709551616) (h2 : lo < 18446744073709551616) : (decOf hi lo).ds.length ≤ 40 := by
  unfold decOf
  split
  · simp
  · split
    · simp
    · split
      · simp
      · exact decF_small (Nat.lt_of_le_of_lt (Nat.mod_le _ _) h1) h2

theorem coefN_num (hi lo : Nat) : coefN (hi : Int) (lo : Int) = num (hi % 2 ^ 49) lo := rfl

theorem ret59 (hi lo : Nat) (h1 : hi < 18446744073709551616) (h2 : lo < 18446744073709551616) (w : World) : RetB 59 [.int .u64 (hi : Int), .int .u64 (lo : Int)] w (fun b => b = true → DecOK (hi : Int) (lo : Int)) := by
  refine RetB.of (c59 _ _ w (fun u w' => ∃ b, u = .bool b ∧ (b = true → DecOK (hi : Int) (lo : Int)) ∧ Keeps w w') ?_)
  unfold VC59
  have hlen := decOf_len hi lo h1 h2
  refine (ret38 hi lo h1 h2 w).go fun w1 hk1 => ⟨_, rfl, fun w2 hw2 => ?_⟩
  obtain ⟨w3, hst, hk3, hs3, hv3⟩ := store_new (t := 64) (cs := (decOf hi lo).cells) hw2 n64 rfl rfl rfl
  have hk3' := hk1.trans hk3
  have no : ∀ w', Keeps w w' → ∃ b, Value.bool false = .bool b ∧ (b = true → DecOK (hi : Int) (lo : Int)) ∧ Keeps w w' := fun w' hk => ⟨false, rfl, (fun h => by cases h), hk⟩
  refine ⟨w3, hst, ?_⟩
  intro K hK
  refine ⟨_, _, _, _, hv3.lies.row n64, ?_⟩
  refine (ret111 (decOf hi lo) w3 (by omega)).go fun b w4 hb hk4 => ⟨b, rfl, fun _ => no _ (hk3'.trans hk4), fun hbt => ?_⟩
  have hbt : b = true := by simpa using hbt
  have hb := hb hbt
  have hv4 := hv3.keeps hk4
  have hk4' := hk3'.trans hk4
  have a61 := and3u _ (div_lt64 hi 61 h1)
  have fin : (hi / 2 ^ 61 % 4 = 3 → (decOf hi lo).kind ≠ 0) → DecOK (hi : Int) (lo : Int) := by
    intro h
    have e : (hi : Int).toNat = hi := rfl
    unfold DecOK
    rw [e, coefN_num]
    by_cases h30 : hi / 2 ^ 58 % 32 = 30
    · exact .inl (.inl h30)
    · by_cases h31 : hi / 2 ^ 58 % 32 = 31
      · exact .inl (.inr h31)
      · right
        by_cases h3 : hi / 2 ^ 61 % 4 = 3
        · exfalso; apply h h3
          unfold decOf; rw [if_neg h30, if_neg h31, if_pos h3]
        · refine ⟨h3, ?_⟩
          have hd : decOf hi lo = ⟨0, decide (hi / 2 ^ 63 = 1), decF (num (hi % 2 ^ 49) lo), ((hi / 2 ^ 49 % 16384 : Nat) : Int) - 6176⟩ := by
            unfold decOf; rw [if_neg h30, if_neg h31, if_neg h3]
          rw [hd] at hb
          exact (decF_len _ 34 (by decide)).1 (hb rfl)
  have key : (hi / 2 ^ 61 % 4 = 3 → (decOf hi lo).kind ≠ 0) → K w4 := fun h => hK w4 ⟨_, _, _, _, hv4.lies.row n64,
    (ret112 (decOf hi lo) w4 (by omega)).go fun v w5 ⟨a, b, hv⟩ hk5 => ⟨a, b, by rw [hv], fun _ => ⟨_, rfl, fun _ => fin h, hk4'.trans hk5⟩, fun _ => no _ (hk4'.trans hk5)⟩⟩
  refine ⟨by decide, _, fdiv_nat hi 61, _, a61, fun h3 => ⟨(decOf hi lo).kind, hv4.lies.at 0 rfl rfl, fun _ => no _ hk4', fun h0 => key fun _ => of_decide_eq_false h0⟩, fun h3 => key fun e => absurd (by rw [e]; rfl) (of_decide_eq_false h3)⟩
end Go.Proofs.Tryz
/- The reference: the text of a number in decimal of 128 bits. -/
set_option linter.unusedVariables false
namespace Go.Proofs.Tryz
open Go.Vc Go.RowKit

theorem decF_small' (n : Nat) (h : n < 10) : decF n = [UInt8.ofNat (48 + n)] := by
  unfold decF
  split
  · rename_i h0; subst h0; rfl
  · rename_i h0
    rw [digs_step n h0, Nat.div_eq_of_lt h, digs_zero, Nat.mod_eq_of_lt h]; rfl
theorem decF_step (n : Nat) (h : 10 ≤ n) : decF n = decF (n / 10) ++ [UInt8.ofNat (48 + n % 10)] := by
  have h0 : n ≠ 0 := by omega
  have h1 : n / 10 ≠ 0 := by omega
  unfold decF
  rw [if_neg h0, if_neg h1, digs_step n h0]
theorem decF_le (n : Nat) (h : n < 10000000000000000000) : (decF n).length ≤ 19 := (decF_len n 19 (by decide)).2 h
/-- A whole number in decimal. -/
def decNum (n : Int) : List UInt8 := if n < 0 then 45 :: decF (-n).toNat else decF n.toNat

theorem ret65_nat : ∀ (m n : Nat), n < m → n < 9223372036854775808 → ∀ w, Ret 65 [.int .i64 (n : Int)] w (.string (mkS (decF n)))
  | 0, n, h, _, w => by omega
  | m + 1, n, h, hb, w => by
    refine Ret.of (c65 _ w _ ?_)
    unfold VC65
    refine ⟨fun h => absurd (of_decide_eq_true h) (by omega), fun _ => ⟨fun h10 => ?_, fun h10 => ?_⟩⟩
    · have h10 : n < 10 := by have := of_decide_eq_true h10; omega
      refine ⟨_, i64w (by omega) (by omega), _, u8w (by omega) (by omega), fun w2 hw2 => ?_⟩
      have e : 48 + (n : Int) = ((UInt8.ofNat (48 + n)).toNat : Int) := by rw [u8_toNat_ofNat _ (by omega)]; omega
      rw [decF_small' n h10]
      exact ⟨_, w2, digit_conv w w2 _ _ e hw2, rfl, by rw [hw2]; exact (Keeps.refl w).alloc _⟩
    · have h10 : 10 ≤ n := by have := of_decide_eq_false h10; omega
      have hdiv : Int.tdiv (n : Int) 10 = ((n / 10 : Nat) : Int) := by rw [Int.tdiv_eq_ediv_of_nonneg (by omega)]; omega
      have hmod : Int.tmod (n : Int) 10 = ((n % 10 : Nat) : Int) := by rw [Int.tmod_eq_emod_of_nonneg (by omega)]; omega
      rw [hdiv, hmod, decF_step n h10]
      have hr := ret65_nat m (n / 10) (by omega) (by omega)
      have hl := decF_le (n / 10) (by omega)
      generalize decF (n / 10) = t at *
      have e : 48 + ((n % 10 : Nat) : Int) = ((UInt8.ofNat (48 + n % 10)).toNat : Int) := by rw [u8_toNat_ofNat _ (by omega)]; omega
      refine ⟨[], trivial, by decide, _, i64w (by omega) (by omega), by decide, _, rfl, _, i64w (n := 48 + ((n % 10 : Nat) : Int)) (by omega) (by omega), _, u8w (by omega) (by omega), ?_, ?_⟩
      · refine (hr w.drew).go fun w3 hk3 => ⟨_, rfl, fun w4 hw4 => ⟨_, w4, digit_conv w3 w4 _ _ e hw4, ?_, rfl, ?_⟩⟩
        · simp; omega
        · rw [hw4]; exact (Keeps.trans ((Keeps.refl w).drew) hk3).alloc _
      · intro w6 hw6
        have hk6 : Keeps w w6 := by rw [hw6]; exact ((Keeps.refl w).drew).alloc _
        have hconv := digit_conv w.drew w6 _ _ e hw6
        have hO : Own w.heap.size w6 (some ⟨w.drew.heap.size, 0, none⟩) 1 1 [UInt8.ofNat (48 + n % 10)] := by
          rw [hw6, e]; exact Own.new w.heap.size w.drew [_] (Nat.le_refl _) (by simp)
        refine ⟨?_, ?_⟩
        · refine (hr w6).go fun w7 hk7 => ⟨_, rfl, _, w7, conv_string (n := 1) (hO.keeps hk7).reads rfl, ?_, rfl, hk6.trans hk7⟩
          simp; omega
        · refine ⟨_, w6, hconv, ?_⟩
          refine (hr w6).go fun w10 hk10 => ⟨_, rfl, ?_, rfl, hk6.trans hk10⟩
          simp; omega
theorem ret65 (n : Int) (h0 : -9223372036854775808 < n) (h1 : n < 9223372036854775808) (w : World) : Ret 65 [.int .i64 n] w (.string (mkS (decNum n))) := by
  by_cases hn : n < 0
  · refine Ret.of (c65 _ w _ ?_)
    unfold VC65 decNum
    rw [if_pos hn]
    have e : 0 - n = (((-n).toNat : Nat) : Int) := by omega
    have hl := decF_le (-n).toNat (by omega)
    refine ⟨fun _ => ⟨((-n).toNat : Int), by rw [e]; exact i64w (by omega) (by omega), ?_⟩, fun h => absurd (of_decide_eq_false h) (by omega)⟩
    exact (ret65_nat _ (-n).toNat (Nat.lt_succ_self _) (by omega) w).go fun w1 hk1 => ⟨_, rfl, by simp; omega, rfl, hk1⟩
  · have e : n = ((n.toNat : Nat) : Int) := by omega
    have : decNum n = decF n.toNat := by unfold decNum; rw [if_neg hn]
    rw [this]
    rw [e]
    exact ret65_nat _ n.toNat (Nat.lt_succ_self _) (by omega) w
theorem decNum_len (n : Int) (h0 : -9223372036854775808 < n) (h1 : n < 9223372036854775808) : (decNum n).length ≤ 20 := by
  unfold decNum
  split
  · have := decF_le (-n).toNat (by omega); simp; omega
  · have := decF_le n.toNat (by omega); omega

/-- The text of a number in decimal. -/
def decTextF (d : Dec) : List UInt8 :=
  let sign : List UInt8 := if d.neg then [45] else []
  if d.kind = 2 then [78, 97, 78]
  else if d.kind = 1 then sign ++ [73, 110, 102, 105, 110, 105, 116, 121]
  else
    let first := d.exp + d.ds.length - 1
    if 0 < d.exp ∨ first < -6 then
      let out := if 1 < d.ds.length then d.ds.take 1 ++ ([46] ++ d.ds.drop 1) else d.ds.take 1
      if 0 ≤ first then sign ++ out ++ [69, 43] ++ decNum first else sign ++ out ++ [69] ++ decNum first
    else if d.exp = 0 then sign ++ d.ds
    else
      let s := List.replicate ((-d.exp).toNat + 1 - d.ds.length) 48 ++ d.ds
      let k := ((s.length : Int) + d.exp).toNat
      sign ++ s.take k ++ [46] ++ s.drop k

theorem ret37 (d : Dec) (w : World) (h1 : 1 ≤ d.ds.length ∨ d.kind = 1 ∨ d.kind = 2) (h2 : d.ds.length ≤ 100) (h3 : -100000 ≤ d.exp) (h4 : d.exp ≤ 100000) : Ret 37 [.agg ⟨d.cells⟩] w (.string (mkS (decTextF d))) := by
  refine Ret.of (c37 _ _ _ _ w _ ?_)
  unfold VC37
  intro w1 hw1
  have hv : Var w1 w.heap.size 64 d.cells := by rw [hw1]; exact var_alloc w _ 64
  have hk : Keeps w w1 := by rw [hw1]; exact (Keeps.refl w).alloc _
  have ck : ∀ w', Keeps w1 w' → w'.cell? ⟨w.heap.size, 0, none⟩ = some (.int .i64 d.kind) ∧ w'.cell? ⟨w.heap.size, 2, none⟩ = some (.string (mkS d.ds)) ∧ w'.cell? ⟨w.heap.size, 3, none⟩ = some (.int .i64 d.exp) := fun w' hk' =>
    ⟨(hv.keeps hk').lies.at 0 rfl rfl, (hv.keeps hk').lies.at 2 rfl rfl, (hv.keeps hk').lies.at 3 rfl rfl⟩
  obtain ⟨c0, c2, c3⟩ := ck w1 (Keeps.refl _)
  intro K hK
  have key : ∀ sign : List UInt8, sign = (if d.neg then [45] else []) → K sign w1 := by
    intro sign hsign
    have hsl : sign.length ≤ 1 := by rw [hsign]; split <;> simp
    refine hK sign w1 ⟨d.kind, c0, fun hk2 => ⟨?_, hk⟩, fun hk2 => ⟨fun hk1 => ⟨by simp; omega, ?_, hk⟩, fun hk1 => ?_⟩⟩
    · unfold decTextF; rw [if_pos (of_decide_eq_true hk2)]
    · unfold decTextF; rw [if_neg (of_decide_eq_false hk2), if_pos (of_decide_eq_true hk1), hsign]
    · have hk2 := of_decide_eq_false hk2
      have hk1 := of_decide_eq_false hk1
      have hdl : 1 ≤ d.ds.length := by omega
      have hT : decTextF d = (if 0 < d.exp ∨ d.exp + d.ds.length - 1 < -6 then
          (if 0 ≤ d.exp + d.ds.length - 1 then sign ++ (if 1 < d.ds.length then d.ds.take 1 ++ ([46] ++ d.ds.drop 1) else d.ds.take 1) ++ [69, 43] ++ decNum (d.exp + d.ds.length - 1)
            else sign ++ (if 1 < d.ds.length then d.ds.take 1 ++ ([46] ++ d.ds.drop 1) else d.ds.take 1) ++ [69] ++ decNum (d.exp + d.ds.length - 1))
          else if d.exp = 0 then sign ++ d.ds
          else sign ++ (List.replicate ((-d.exp).toNat + 1 - d.ds.length) 48 ++ d.ds).take (((List.replicate ((-d.exp).toNat + 1 - d.ds.length) (48 : UInt8) ++ d.ds).length : Int) + d.exp).toNat ++ [46] ++ (List.replicate ((-d.exp).toNat + 1 - d.ds.length) 48 ++ d.ds).drop (((List.replicate ((-d.exp).toNat + 1 - d.ds.length) (48 : UInt8) ++ d.ds).length : Int) + d.exp).toNat) := by
        unfold decTextF; rw [if_neg hk2, if_neg hk1, ← hsign]
      rw [hT]
      refine ⟨d.ds, c2, d.exp, c3, _, i64w (n := d.exp + (d.ds.length : Int)) (by omega) (by omega), _, i64w (n := d.exp + (d.ds.length : Int) - 1) (by omega) (by omega), ?_⟩
      generalize hfirst : d.exp + (d.ds.length : Int) - 1 = first at *
      intro K1 hK1
      have k1 : ∀ b, (b = true ↔ 0 < d.exp ∨ first < -6) → K1 b w1 := by
        intro b hb
        refine hK1 b w1 ⟨fun hbt => ?_, fun hbt => ?_⟩
        · rw [if_pos (hb.1 hbt)]
          refine ⟨⟨by decide, by omega⟩, ?_⟩
          intro K2 hK2
          have k2 : ∀ out : List UInt8, out = (if 1 < d.ds.length then d.ds.take 1 ++ ([46] ++ d.ds.drop 1) else d.ds.take 1) → K2 out w1 := by
            intro out hout
            have hol : out.length ≤ 102 := by
              rw [hout]; split <;> simp <;> omega
            rw [← hout] at hK2
            have hdn := decNum_len first (by omega) (by omega)
            refine hK2 out w1 ⟨fun h0 => ?_, fun h0 => ?_⟩
            · have h0 := of_decide_eq_true h0
              refine ⟨by omega, by simp; omega, ?_⟩
              refine (ret65 first (by omega) (by omega) w1).go fun w5 hk5 => ⟨_, rfl, by simp; omega, ?_, hk.trans hk5⟩
              rw [if_pos h0]
            · have h0 := of_decide_eq_false h0
              refine ⟨by omega, by simp; omega, ?_⟩
              refine (ret65 first (by omega) (by omega) w1).go fun w5 hk5 => ⟨_, rfl, by simp; omega, ?_, hk.trans hk5⟩
              rw [if_neg h0]
          refine ⟨fun h => ⟨⟨by decide, by omega⟩, by simp; omega, by simp; omega, k2 _ (by rw [if_pos (by have := of_decide_eq_true h; omega)])⟩, fun h => k2 _ (by rw [if_neg (by have := of_decide_eq_false h; omega)])⟩
        · have hnb : ¬ (0 < d.exp ∨ first < -6) := fun e => by rw [hb.2 e] at hbt; cases hbt
          rw [if_neg hnb]
          refine ⟨d.exp, c3, fun h0 => ⟨by omega, ?_, hk⟩, fun h0 => ?_⟩
          · rw [if_pos (of_decide_eq_true h0)]
          · have h0 := of_decide_eq_false h0
            rw [if_neg h0]
            have hexp : d.exp < 0 := by omega
            generalize hS : List.replicate ((-d.exp).toNat + 1 - d.ds.length) (48 : UInt8) ++ d.ds = S
            have hSl : S.length = (-d.exp).toNat + 1 - d.ds.length + d.ds.length := by rw [← hS]; simp
            refine ⟨fun m s w7 => w7 = w1 ∧ ∃ j : Nat, s = List.replicate j 48 ++ d.ds ∧ j ≤ (-d.exp).toNat + 1 - d.ds.length ∧ m = (-d.exp).toNat + 1 - d.ds.length - j, ⟨_, rfl, 0, by simp, by omega, rfl⟩, ?_⟩
            rintro m s w7 ⟨rfl, j, rfl, hj, rfl⟩
            have hjl : (List.replicate j (48 : UInt8) ++ d.ds).length = j + d.ds.length := by simp
            refine ⟨d.exp, c3, _, i64w (n := 0 - d.exp) (by omega) (by omega), fun hle => ?_, fun hgt => ?_⟩
            · have hle := of_decide_eq_true hle
              rw [hjl] at hle
              refine ⟨by simp; omega, (-d.exp).toNat + 1 - d.ds.length - (j + 1), by omega, rfl, j + 1, ?_, by omega, rfl⟩
              rw [List.replicate_succ]; rfl
            · have hgt := of_decide_eq_false hgt
              rw [hjl] at hgt
              have hje : j = (-d.exp).toNat + 1 - d.ds.length := by omega
              rw [← hje] at hS
              rw [hS]
              rw [hS] at hjl
              have htk : (S.take ((S.length : Int) + d.exp).toNat).length ≤ S.length := by rw [List.length_take]; omega
              have hdr : (S.drop ((S.length : Int) + d.exp).toNat).length ≤ S.length := by rw [List.length_drop]; omega
              refine ⟨d.exp, c3, _, i64w (n := (S.length : Int) + d.exp) (by omega) (by omega), ⟨by omega, by omega⟩, by omega, ?_, ⟨by omega, by omega⟩, ?_, rfl, hk.drew⟩
              · rw [List.length_append, List.length_singleton]; omega
              · rw [List.length_append, List.length_append, List.length_singleton]; omega
      refine ⟨d.exp, c3, fun h => k1 _ ?_, fun h => k1 _ ?_⟩
      · have := of_decide_eq_true h; simp [this]
      · have := of_decide_eq_false h; simp only [decide_eq_true_eq]; omega
  refine ⟨d.neg, hv.lies.at 1 rfl rfl, fun h => key _ (by rw [h]; rfl), fun h => key _ (by rw [h]; rfl)⟩
end Go.Proofs.Tryz
set_option linter.unusedVariables false
set_option maxRecDepth 100000
namespace Go.Proofs.Tryz
open Go.Vc

/- F34: strconv.FormatInt -/
def VC34 (i : Int) (base : Int) (w : World) (R : Value → World → Prop) : Prop :=
  Calls prog 63 ⟨[.int .i64 i, .int .i64 base]⟩ w fun e w1 => ∃ x7 : List UInt8, e = .returned (.string (mkS x7)) ∧ 
  R (.string (mkS x7)) w1
def an34 : Ann :=
  .seq (.reg (.text []))
  (.seq (.reg (.text [.p .n, .p .n, .p (.sh [.str])]))
  .leaf)
theorem vcE34 (i : Int) (base : Int) (w : World) (R : Value → World → Prop) : vcFn prog f34 an34 [.int .i64 i, .int .i64 base] w R = VC34 i base w R := by kernel_rfl
theorem c34 (i : Int) (base : Int) (w : World) (R : Value → World → Prop) (hvc : VC34 i base w R) : Calls prog 34 ⟨[.int .i64 i, .int .i64 base]⟩ w fun e w' => ∃ v, e = .returned v ∧ R v w' :=
  vc_calls mixed (fn := f34) (ann := an34) (by kernel_rfl) ((vcE34 i base w R).symm ▸ hvc)

/- F36: strconv.FormatUint -/
def VC36 (i : Int) (base : Int) (w : World) (R : Value → World → Prop) : Prop :=
  Calls prog 64 ⟨[.int .u64 i, .int .i64 base]⟩ w fun e w1 => ∃ x7 : List UInt8, e = .returned (.string (mkS x7)) ∧ 
  R (.string (mkS x7)) w1
def an36 : Ann :=
  .seq (.reg (.text []))
  (.seq (.reg (.text [.p .n, .p .n, .p (.sh [.str])]))
  .leaf)
theorem vcE36 (i : Int) (base : Int) (w : World) (R : Value → World → Prop) : vcFn prog f36 an36 [.int .u64 i, .int .i64 base] w R = VC36 i base w R := by kernel_rfl
theorem c36 (i : Int) (base : Int) (w : World) (R : Value → World → Prop) (hvc : VC36 i base w R) : Calls prog 36 ⟨[.int .u64 i, .int .i64 base]⟩ w fun e w' => ∃ v, e = .returned v ∧ R v w' :=
  vc_calls mixed (fn := f36) (ann := an36) (by kernel_rfl) ((vcE36 i base w R).symm ▸ hvc)

/- F64: strconv.FormatUint -/
def VC64 (i : Int) (base : Int) (w : World) (R : Value → World → Prop) : Prop :=
  (decide (base = 10) = true →
  (decide (i < 100) = true →
    ∃ x14 : Int, IntKind.i64.wrap i = x14 ∧ 
      Calls prog 118 ⟨[.int .i64 x14]⟩ w fun e w1 => ∃ x15 : List UInt8, e = .returned (.string (mkS x15)) ∧ 
      R (.string (mkS x15)) w1) ∧ (decide (i < 100) = false →
    ∀ w2, w2 = w.alloc (.cells ⟨[.int .u8 0, .int .u8 0, .int .u8 0, .int .u8 0, .int .u8 0, .int .u8 0, .int .u8 0, .int .u8 0, .int .u8 0, .int .u8 0, .int .u8 0, .int .u8 0, .int .u8 0, .int .u8 0, .int .u8 0, .int .u8 0, .int .u8 0, .int .u8 0, .int .u8 0, .int .u8 0, .int .u8 0, .int .u8 0, .int .u8 0, .int .u8 0]⟩ 174) → 
      Calls prog 119 ⟨[.int .u64 i]⟩ w2 fun e w3 => ∃ x17 : Int, e = .returned (.int .i64 x17) ∧ 
      ((0 : Int) ≤ x17 ∧ x17 ≤ (24 : Int)) ∧ 
      Calls prog 120 ⟨[.slice (some (⟨w.heap.size, 0, none⟩)) x17.toNat 24, .int .u64 i]⟩ w3 fun e w4 => e = .returned (.tuple ⟨[]⟩) ∧ 
      ((0 : Int) ≤ x17 ∧ x17 ≤ (24 : Int)) ∧ 
      ∃ x24 : List UInt8, ∃ w5, (convert 23 9 (.slice (some (⟨w.heap.size, 0, none⟩)) x17.toNat 24)).run prog w4 = .ok (.string (mkS x24)) w5 ∧ 
      R (.string (mkS x24)) w5)) ∧ (decide (base = 10) = false →
  Calls prog 121 ⟨[.slice none 0 0, .int .u64 i, .int .i64 base, .bool false, .bool false]⟩ w fun e w6 => ∃ (x28 : Option Addr) (x28_n x28_c : Nat), ∃ x28_1 : List UInt8, e = .returned (.tuple ⟨[.slice x28 x28_n x28_c, .string (mkS x28_1)]⟩) ∧ 
    R (.string (mkS x28_1)) w6)
def an64 : Ann :=
  .seq (.reg (.text []))
  (.seq (.seq (.reg (.text []))
  (.cond 1 2 (.seq (.seq (.reg (.text []))
  (.cond 3 4 (.seq (.reg (.text [.p .n, .p .n, .p (.sh [.str])]))
  .leaf) .leaf))
  (.seq (.reg (.text []))
  (.seq (.reg (.text [.p .n, .p (.sh [.int .i64])]))
  (.seq (.reg (.text [.p .n, .p .n, .p .n, .p (.sh [])]))
  (.seq (.reg (.text [.p .n, .p .n, .p (.sh [.str])]))
  .leaf))))) .leaf))
  (.seq (.reg (.text [.p .n, .p .n, .p (.sh [.slice, .str])]))
  (.seq (.reg (.text []))
  .leaf)))
theorem vcE64 (i : Int) (base : Int) (w : World) (R : Value → World → Prop) : vcFn prog f64 an64 [.int .u64 i, .int .i64 base] w R = VC64 i base w R := by kernel_rfl
theorem c64 (i : Int) (base : Int) (w : World) (R : Value → World → Prop) (hvc : VC64 i base w R) : Calls prog 64 ⟨[.int .u64 i, .int .i64 base]⟩ w fun e w' => ∃ v, e = .returned v ∧ R v w' :=
  vc_calls mixed (fn := f64) (ann := an64) (by kernel_rfl) ((vcE64 i base w R).symm ▸ hvc)

/- F23: spec.ExtText$1 -/
def VC23 (s : List UInt8) (x1 : Addr) (w : World) (R : Value → World → Prop) : Prop :=
  ∃ x5 : Bool, w.cell? x1 = some (.bool x5) ∧ 
  Calls prog 24 ⟨[.string (mkS s), .bool x5]⟩ w fun e w1 => ∃ x6 : List UInt8, e = .returned (.string (mkS x6)) ∧ 
  R (.string (mkS x6)) w1
def an23 : Ann :=
  .seq (.reg (.text []))
  (.seq (.reg (.text [.p .n, .p (.sh [.bool]), .p (.sh [.str])]))
  .leaf)
theorem vcE23 (s : List UInt8) (x1 : Addr) (w : World) (R : Value → World → Prop) : vcFn prog f23 an23 [.string (mkS s), .pointer (some x1)] w R = VC23 s x1 w R := by kernel_rfl
theorem c23 (s : List UInt8) (x1 : Addr) (w : World) (R : Value → World → Prop) (hvc : VC23 s x1 w R) : Calls prog 23 ⟨[.string (mkS s), .pointer (some x1)]⟩ w fun e w' => ∃ v, e = .returned v ∧ R v w' :=
  vc_calls mixed (fn := f23) (ann := an23) (by kernel_rfl) ((vcE23 s x1 w R).symm ▸ hvc)

/- F25: spec.ExtText$2 -/
def VC25 (name : List UInt8) (s : List UInt8) (w : World) (R : Value → World → Prop) : Prop :=
  [123, 34].length + name.length ≤ 9223372036854775807 ∧ 
  ([123, 34] ++ name).length + [34, 58].length ≤ 9223372036854775807 ∧ 
  (([123, 34] ++ name) ++ [34, 58]).length + s.length ≤ 9223372036854775807 ∧ 
  ((([123, 34] ++ name) ++ [34, 58]) ++ s).length + [125].length ≤ 9223372036854775807 ∧ 
  R (.tuple ⟨[.string (mkS (((([123, 34] ++ name) ++ [34, 58]) ++ s) ++ [125])), .bool true]⟩) w
def an25 : Ann :=
  .seq (.reg (.text []))
  (.seq (.reg (.text []))
  .leaf)
theorem vcE25 (name : List UInt8) (s : List UInt8) (w : World) (R : Value → World → Prop) : vcFn prog f25 an25 [.string (mkS name), .string (mkS s)] w R = VC25 name s w R := by kernel_rfl
theorem c25 (name : List UInt8) (s : List UInt8) (w : World) (R : Value → World → Prop) (hvc : VC25 name s w R) : Calls prog 25 ⟨[.string (mkS name), .string (mkS s)]⟩ w fun e w' => ∃ v, e = .returned v ∧ R v w' :=
  vc_calls mixed (fn := f25) (ann := an25) (by kernel_rfl) ((vcE25 name s w R).symm ▸ hvc)

end Go.Proofs.Tryz
/- Whole numbers in decimal by the library: FormatInt, FormatUint at base 10. -/
set_option linter.unusedVariables false
namespace Go.Proofs.Tryz
open Go.Vc Go.RowKit Go.Sort

theorem tabIs_keeps {w w' : World} (hk : Keeps w w') {name : String} {k : IntKind} {zs : List Int} (h : Lib.TabIs prog w name k zs) : Lib.TabIs prog w' name k zs := by
  unfold Lib.TabIs World.var? at *
  cases hg : prog.globalNamed name with
  | none => simp [hg] at h
  | some g =>
    simp only [hg, Option.bind_some] at h ⊢
    have hlt : g < w.heap.size := by
      rcases Nat.lt_or_ge g w.heap.size with h' | h'
      · exact h'
      · rw [Array.getElem?_eq_none h'] at h; simp at h
    rw [Below.block hk g hlt]
    exact h

theorem decF_lib : ∀ (m n : Nat), n < m → Lib.decDigits n = decF n
  | 0, n, h => by omega
  | m + 1, n, h => by
    rw [Lib.decDigits]
    split
    · rename_i h10; exact (decF_small' n h10).symm
    · rename_i h10
      rw [decF_step n (by omega), decF_lib m (n / 10) (by omega)]
theorem decF_dig (n : Nat) : Lib.decDigits n = decF n := decF_lib (n + 1) n (Nat.lt_succ_self _)
theorem decNum_itoa (n : Int) : Lib.itoa n = decNum n := by
  unfold Lib.itoa decNum
  split
  · rw [decF_dig]; congr 2; omega
  · rw [decF_dig]
theorem toArray_mkS (l : List UInt8) : (⟨l.toArray⟩ : ByteArray) = mkS l := rfl

theorem keeps_grow (w : World) (k : Nat) (os : Array Obj) : Keeps w (grow (w.drewN k) os) :=
  ⟨rfl, rfl, rfl, by simp [grow, World.drewN], fun j hj => by
    show (w.heap ++ os)[j]? = _
    rw [Array.getElem?_append_left hj]⟩

abbrev Pow (w : World) : Prop := Lib.TabIs prog w "internal/strconv.uint64pow10" .u64 Lib.pow10Tab

theorem ret34 (n : Int) (h0 : -9223372036854775808 ≤ n) (h1 : n ≤ 9223372036854775807) (w : World) (ht : Pow w) : Ret 34 [.int .i64 n, .int .i64 10] w (.string (mkS (decNum n))) := by
  refine Ret.of (c34 _ _ w _ ?_)
  unfold VC34
  refine (internal_strconv_FormatInt_10 n h0 h1 w ht).mono ?_
  rintro e w' ⟨rfl, k, os, rfl⟩
  refine ⟨decNum n, ?_, rfl, keeps_grow w k os⟩
  rw [toArray_mkS, decNum_itoa]

theorem zeros24_list : Lib.zeros24 = ⟨[.int .u8 0, .int .u8 0, .int .u8 0, .int .u8 0, .int .u8 0, .int .u8 0, .int .u8 0, .int .u8 0, .int .u8 0, .int .u8 0, .int .u8 0, .int .u8 0, .int .u8 0, .int .u8 0, .int .u8 0, .int .u8 0, .int .u8 0, .int .u8 0, .int .u8 0, .int .u8 0, .int .u8 0, .int .u8 0, .int .u8 0, .int .u8 0]⟩ := rfl

theorem ret36 (n : Nat) (h1 : n < 18446744073709551616) (w : World) (ht : Pow w) : Ret 36 [.int .u64 (n : Int), .int .i64 10] w (.string (mkS (decF n))) := by
  refine Ret.of (c36 _ _ w _ ?_)
  unfold VC36
  have h64 : Ret 64 [.int .u64 (n : Int), .int .i64 10] w (.string (mkS (decF n))) := by
    refine Ret.of (c64 _ _ w _ ?_)
    unfold VC64
    refine ⟨fun _ => ⟨fun hs => ?_, fun hs => ?_⟩, fun h => absurd (of_decide_eq_false h) (by decide)⟩
    · have hs := of_decide_eq_true hs
      refine ⟨_, i64w (by omega) (by omega), ?_⟩
      refine (internal_strconv_small n (by omega) w).mono ?_
      rintro e w' ⟨rfl, rfl⟩
      exact ⟨decF n, by rw [toArray_mkS, decF_dig], rfl, Keeps.refl _⟩
    · have hs := of_decide_eq_false hs
      intro w2 hw2
      have hk2 : Keeps w w2 := by rw [hw2]; exact (Keeps.refl w).alloc _
      refine (internal_strconv_numDigits n (by omega) h1 w2 (tabIs_keeps hk2 ht)).mono ?_
      rintro e w3 ⟨rfl, rfl⟩
      have hd20 := Lib.nDigits_le20 n h1
      refine ⟨_, rfl, ⟨by omega, by omega⟩, ?_⟩
      have etn : ((Lib.nDigits n : Nat) : Int).toNat = Lib.nDigits n := rfl
      rw [etn]
      have hH : Holds (fun (b : UInt8) => Value.int .u8 (b.toNat : Int)) w3 w.heap.size 0 (Array.replicate (Lib.nDigits n) (0 : UInt8)) := by
        intro j hj
        have hj' : j < Lib.nDigits n := by simpa using hj
        rw [hw2, ← zeros24_list]
        refine ⟨?_, World.frozen?_alloc_new _ _ _ _⟩
        rw [World.cell?_alloc_new, Lib.zeros24_at _ (by omega), getElem!_pos _ j hj]
        simp
      have hsz : (Array.replicate (Lib.nDigits n) (0 : UInt8)).size = Lib.nDigits n := by simp
      have hlt : n < 10 ^ Lib.nDigits n := by
        have := (decF_len n (Lib.nDigits n) (Lib.nDigits_pos n)).1 (by rw [← decF_dig, Lib.decDigits_length]; exact Nat.le_refl _)
        exact this
      have hcall := internal_strconv_formatBase10 w.heap.size 0 24 n (Array.replicate (Lib.nDigits n) (0 : UInt8)) w3 hH (by rw [hsz]; exact hlt) h1 (by rw [hsz]; omega)
      rw [hsz] at hcall
      refine hcall.mono ?_
      rintro e w4 ⟨rfl, m, v', dk, hw4, hinv⟩
      have hkeep : Keeps w w4 := by
        rw [hw4, hw2, alloc_eq_grow]
        obtain ⟨os', _, e⟩ := putRow_grow_new (fun (b : UInt8) => Value.int .u8 (b.toNat : Int)) w #[_] w.heap.size 0 dk (Nat.le_refl _)
        rw [e]
        exact keeps_grow w m os'
      have hdl : (decF n).length = Lib.nDigits n := by rw [← decF_dig, Lib.decDigits_length]
      have hdks : dk.size = Lib.nDigits n := hinv.size
      have hr : ReadsB w4 (some ⟨w.heap.size, 0, none⟩) (decF n) := by
        intro j b hj
        have hjl := (List.getElem?_eq_some_iff.1 hj).1
        refine ⟨_, rfl, ?_⟩
        rw [add_at, hw4]
        have hc := cell?_putRow (fun (b : UInt8) => Value.int .u8 (b.toNat : Int)) w3 w.heap.size 0 (Array.replicate (Lib.nDigits n) (0 : UInt8)) dk hH (by rw [hdks]; simp) j (by omega)
        have hnum := Lib.row_is_numeral hinv j (by rw [decF_dig]; exact hjl)
        have hb : (decF n)[j]'hjl = b := (List.getElem?_eq_some_iff.1 hj).2
        have hnum' : (Lib.decDigits n)[j]? = some (dk[j]!) := by rw [List.getElem?_eq_getElem (by rw [decF_dig]; exact hjl), hnum]
        rw [decF_dig, hj] at hnum'
        have hbd : b = dk[j]! := Option.some.inj hnum'
        rw [hbd]
        exact hc
      exact ⟨rfl, ⟨by omega, by omega⟩, _, w4, conv_string hr hdl.symm, rfl, hkeep⟩
  exact h64.go fun w1 hk1 => ⟨_, rfl, rfl, hk1⟩
end Go.Proofs.Tryz
