/- Parts of a proof, joined: A10, A13, VE, A14, VF. -/
import Derived.Test.YtfofafjemgfobaaGreatDoorX8
import Derived.Test.YtfofafjemgfobaaGreatDoorX4
import Derived.Test.YtfofafjemgfobaaGreatDoorX7
import Derived.Lib.ItoaMem
import Derived.Lib.ItoaLen
set_option linter.unusedVariables false
namespace Go.Proofs.Tryz
open Go.Vc Go.RowKit
def RetP (k : Nat) (args : List Value) (w : World) (P : Value → Prop) : Prop := Calls prog k ⟨args⟩ w fun e w' => ∃ v, e = .returned v ∧ P v ∧ Keeps w w'
theorem RetP.of {k : Nat} {args : List Value} {w : World} {P : Value → Prop} (h : Calls prog k ⟨args⟩ w fun e w' => ∃ u, e = .returned u ∧ (P u ∧ Keeps w w')) : RetP k args w P := h
theorem RetP.go {k : Nat} {args : List Value} {w : World} {P : Value → Prop} (h : RetP k args w P) {Q : Ending → World → Prop} (hq : ∀ v w', P v → Keeps w w' → Q (.returned v) w') : Calls prog k ⟨args⟩ w Q :=
  Calls.mono h fun e w' ⟨v, he, hp, hk⟩ => by rw [he]; exact hq v w' hp hk
theorem ret111 (d : Dec) (w : World) (hl : d.ds.length ≤ 1099511627776) : RetB 111 [.agg ⟨d.cells⟩] w (fun b => b = true → d.kind = 0 → d.ds.length ≤ 34) := by
  refine RetB.of (c111 _ _ _ _ w (fun u w' => ∃ b, u = .bool b ∧ (b = true → d.kind = 0 → d.ds.length ≤ 34) ∧ Keeps w w') ?_)
  unfold VC111
  intro w1 hw1
  have hv : Var w1 w.heap.size 64 d.cells := by rw [hw1]; exact var_alloc w _ 64
  have hk : Keeps w w1 := by rw [hw1]; exact (Keeps.refl w).alloc _
  have no : ∀ w', Keeps w w' → ∃ b, Value.bool false = .bool b ∧ (b = true → d.kind = 0 → d.ds.length ≤ 34) ∧ Keeps w w' := fun w' hk => ⟨false, rfl, (fun h => by cases h), hk⟩
  refine ⟨d.kind, hv.lies.at 0 rfl rfl, fun h0 => ?_, fun h0 => ?_⟩
  · have h0 : ¬ d.kind = 0 := by simpa using h0
    exact ⟨d.kind, hv.lies.at 0 rfl rfl, fun _ => ⟨true, rfl, fun _ e => (h0 e).elim, hk⟩, fun _ => ⟨d.kind, hv.lies.at 0 rfl rfl, _, rfl, fun _ e => (h0 e).elim, hk⟩⟩
  · intro K hK
    have key : d.ds.length ≤ 34 → K w1 := by
      intro h34
      refine hK w1 ⟨fun m i w' => w' = w1 ∧ ∃ k : Nat, i = k ∧ k ≤ d.ds.length ∧ m = d.ds.length - k, ⟨d.ds.length, rfl, 0, rfl, by omega, rfl⟩, ?_⟩
      rintro m i w' ⟨rfl, k, rfl, hk', rfl⟩
      refine ⟨d.ds, hv.lies.at 2 rfl rfl, fun h => ?_, fun h => ⟨true, rfl, fun _ _ => h34, hk⟩⟩
      have h := of_decide_eq_true h
      have hget := List.getElem?_eq_getElem (show k < d.ds.length by omega)
      exact ⟨d.ds, hv.lies.at 2 rfl rfl, _, ⟨by omega, hget⟩, fun _ => no _ hk, fun _ => ⟨d.ds, hv.lies.at 2 rfl rfl, _, ⟨by omega, hget⟩, fun _ => no _ hk, fun _ => ⟨_, i64w (by omega) (by omega), d.ds.length - (k + 1), by omega, rfl, k + 1, by omega, by omega, rfl⟩⟩⟩
    refine ⟨d.ds, hv.lies.at 2 rfl rfl, fun _ => no _ hk, fun h1 => ⟨d.ds, hv.lies.at 2 rfl rfl, fun _ => no _ hk, fun h34 => ⟨d.ds, hv.lies.at 2 rfl rfl, fun h2 => ?_, fun h2 => ?_⟩⟩⟩
    · have h34 : d.ds.length ≤ 34 := by have := of_decide_eq_false h34; omega
      have hget := List.getElem?_eq_getElem (show 0 < d.ds.length by have := of_decide_eq_true h2; omega)
      exact ⟨d.ds, hv.lies.at 2 rfl rfl, _, ⟨by decide, hget⟩, fun _ => no _ hk, fun _ => ⟨d.exp, hv.lies.at 3 rfl rfl, fun _ => no _ hk, fun _ => ⟨d.exp, hv.lies.at 3 rfl rfl, fun _ => no _ hk, fun _ => key h34⟩⟩⟩
    · have h34 : d.ds.length ≤ 34 := by have := of_decide_eq_false h34; omega
      exact ⟨d.exp, hv.lies.at 3 rfl rfl, fun _ => no _ hk, fun _ => ⟨d.exp, hv.lies.at 3 rfl rfl, fun _ => no _ hk, fun _ => key h34⟩⟩
theorem ret169 (hi lo digit : Int) (w : World) : RetP 169 [.int .u64 hi, .int .u64 lo, .int .u64 digit] w (fun v => ∃ (a b : Int) (c : Bool), v = .tuple ⟨[.int .u64 a, .int .u64 b, .bool c]⟩) := by
  refine RetP.of (c169 hi lo digit w _ ?_)
  unfold VC169
  refine ⟨_, rfl, by decide, _, rfl, _, rfl, by decide, _, rfl, fun w1 hw1 => ?_⟩
  generalize bits .and .u64 lo 4294967295 = a0
  generalize Int.fdiv lo (2 ^ 32) = a1
  generalize bits .and .u64 hi 4294967295 = a2
  generalize Int.fdiv hi (2 ^ 32) = a3
  obtain ⟨w2, hst, hk2, hs2, hv2⟩ := store_new (t := 247) (cs := [.int .u64 a0, .int .u64 a1, .int .u64 a2, .int .u64 a3]) hw1 n247 rfl rfl rfl
  refine ⟨w2, hst, fun m c i w3 => Keeps w w3 ∧ (∃ b0 b1 b2 b3 : Int, Var w3 w.heap.size 247 [.int .u64 b0, .int .u64 b1, .int .u64 b2, .int .u64 b3]) ∧ ∃ k : Nat, i = k ∧ k ≤ 4 ∧ m = 4 - k, ⟨4, hk2, ⟨a0, a1, a2, a3, hv2⟩, 0, rfl, by decide, rfl⟩, ?_⟩
  rintro m c i w3 ⟨hk3, ⟨b0, b1, b2, b3, hv3⟩, k, rfl, hk4, rfl⟩
  refine ⟨fun h => ?_, fun h => ?_⟩
  · have h := of_decide_eq_true h
    have hklt : k < 4 := by omega
    obtain ⟨x, hx⟩ : ∃ x, ([.int .u64 b0, .int .u64 b1, .int .u64 b2, .int .u64 b3] : List Value)[k]? = some (.int .u64 x) := by
      rcases (show k = 0 ∨ k = 1 ∨ k = 2 ∨ k = 3 by omega) with rfl | rfl | rfl | rfl <;> exact ⟨_, rfl⟩
    have ek : (k : Int).toNat * 1 = k := by simp
    rw [ek, add_at, Nat.zero_add]
    refine ⟨⟨by omega, by omega⟩, x, hv3.lies.at k hx (by omega), _, rfl, _, rfl, _, rfl, by decide, _, rfl, ⟨by omega, by omega⟩, hv3.can (by simpa using hklt) rfl, fun w4 hw4 => ⟨_, i64w (n := (k : Int) + 1) (by omega) (by omega), 4 - (k + 1), by omega, ?_, ?_, k + 1, by omega, by omega, rfl⟩⟩
    · rw [hw4]; exact Below.setCell hk3 (Nat.le_refl _) _
    · have := hv3.set k (.int .u64 (bits .and .u64 (IntKind.u64.wrap (IntKind.u64.wrap (x * 10) + c)) 4294967295))
      rw [hw4]
      rcases (show k = 0 ∨ k = 1 ∨ k = 2 ∨ k = 3 by omega) with rfl | rfl | rfl | rfl <;> exact ⟨_, _, _, _, this⟩
  · exact ⟨by decide, b2, hv3.lies.at 2 rfl rfl, by decide, b3, hv3.lies.at 3 rfl rfl, by decide, _, rfl, _, rfl, by decide, b0, hv3.lies.at 0 rfl rfl, by decide, b1, hv3.lies.at 1 rfl rfl, by decide, _, rfl, _, rfl, ⟨_, _, _, rfl⟩, hk3.drew⟩
theorem ret112 (d : Dec) (w : World) (hl : d.ds.length ≤ 1099511627776) : RetP 112 [.agg ⟨d.cells⟩] w (fun v => ∃ (a b : Int), v = .tuple ⟨[.int .u64 a, .int .u64 b]⟩) := by
  refine RetP.of (c112 _ _ _ _ w _ ?_)
  unfold VC112
  intro w1 hw1
  have hv : Var w1 w.heap.size 64 d.cells := by rw [hw1]; exact var_alloc w _ 64
  have hk : Keeps w w1 := by rw [hw1]; exact (Keeps.refl w).alloc _
  intro K hK
  have key : ∀ sign, K sign w1 := by
    intro sign
    refine hK sign w1 ⟨d.kind, hv.lies.at 0 rfl rfl, fun _ => ⟨_, rfl, ⟨_, _, rfl⟩, hk⟩, fun _ => ⟨fun _ => ⟨⟨_, _, rfl⟩, hk⟩, fun _ => ?_⟩⟩
    refine ⟨fun m h l i w3 => Keeps w1 w3 ∧ ∃ k : Nat, i = k ∧ k ≤ d.ds.length ∧ m = d.ds.length - k, ⟨d.ds.length, Keeps.refl _, 0, rfl, by omega, rfl⟩, ?_⟩
    rintro m h l i w3 ⟨hk3, k, rfl, hk', rfl⟩
    have hv3 := hv.keeps hk3
    refine ⟨d.ds, hv3.lies.at 2 rfl rfl, fun hlt => ?_, fun _ => ⟨d.exp, hv3.lies.at 3 rfl rfl, _, rfl, _, rfl, by decide, _, rfl, _, rfl, _, rfl, ⟨_, _, rfl⟩, hk.trans hk3⟩⟩
    have hlt := of_decide_eq_true hlt
    have hget := List.getElem?_eq_getElem (show k < d.ds.length by omega)
    refine ⟨d.ds, hv3.lies.at 2 rfl rfl, _, ⟨by omega, hget⟩, _, rfl, _, rfl, ?_⟩
    refine (ret169 h l _ w3).go fun v w4 ⟨a, b, c, hv4⟩ hk4 => ⟨a, b, c, by rw [hv4], _, i64w (by omega) (by omega), d.ds.length - (k + 1), by omega, hk3.trans hk4, k + 1, by omega, by omega, rfl⟩
  exact ⟨d.neg, hv.lies.at 1 rfl rfl, fun _ => key _, fun _ => key _⟩
theorem decF_len (n k : Nat) (hk : 1 ≤ k) : (decF n).length ≤ k ↔ n < 10 ^ k := by
  unfold decF
  split
  · rename_i h; subst h
    simp only [List.length_singleton]
    exact ⟨fun _ => Nat.pow_pos (by decide), fun _ => hk⟩
  · exact digs_len k n
theorem decF_small {hi lo : Nat} (h1 : hi < 18446744073709551616) (h2 : lo < 18446744073709551616) : (decF (num hi lo)).length ≤ 40 :=
  (decF_len _ 40 (by decide)).2 (Nat.lt_of_lt_of_le (num_lt h1 h2) (by decide))
theorem decOf_len (hi lo : Nat) (h1 : hi < 18446744073709551616) (h2 : lo < 18446744073709551616) : (decOf hi lo).ds.length ≤ 40 := by
  unfold decOf
  split
  · simp
  · split
    · simp
    · split
      · simp
      · exact decF_small (Nat.lt_of_le_of_lt (Nat.mod_le _ _) h1) h2
theorem coefN_num (hi lo : Nat) : coefN (hi : Int) (lo : Int) = num (hi % 2 ^ 49) lo := rfl
theorem ret59 (hi lo : Nat) (h1 : hi < 18446744073709551616) (h2 : lo < 18446744073709551616) (w : World) : RetB 59 [.int .u64 (hi : Int), .int .u64 (lo : Int)] w (fun b => b = true → DecOK (hi : Int) (lo : Int)) := by
  refine RetB.of (c59 _ _ w (fun u w' => ∃ b, u = .bool b ∧ (b = true → DecOK (hi : Int) (lo : Int)) ∧ Keeps w w') ?_)
  unfold VC59
  have hlen := decOf_len hi lo h1 h2
  refine (ret38 hi lo h1 h2 w).go fun w1 hk1 => ⟨_, rfl, fun w2 hw2 => ?_⟩
  obtain ⟨w3, hst, hk3, hs3, hv3⟩ := store_new (t := 64) (cs := (decOf hi lo).cells) hw2 n64 rfl rfl rfl
  have hk3' := hk1.trans hk3
  have no : ∀ w', Keeps w w' → ∃ b, Value.bool false = .bool b ∧ (b = true → DecOK (hi : Int) (lo : Int)) ∧ Keeps w w' := fun w' hk => ⟨false, rfl, (fun h => by cases h), hk⟩
  refine ⟨w3, hst, ?_⟩
  intro K hK
  refine ⟨_, _, _, _, hv3.lies.row n64, ?_⟩
  refine (ret111 (decOf hi lo) w3 (by omega)).go fun b w4 hb hk4 => ⟨b, rfl, fun _ => no _ (hk3'.trans hk4), fun hbt => ?_⟩
  have hbt : b = true := by simpa using hbt
  have hb := hb hbt
  have hv4 := hv3.keeps hk4
  have hk4' := hk3'.trans hk4
  have a61 := and3u _ (div_lt64 hi 61 h1)
  have fin : (hi / 2 ^ 61 % 4 = 3 → (decOf hi lo).kind ≠ 0) → DecOK (hi : Int) (lo : Int) := by
    intro h
    have e : (hi : Int).toNat = hi := rfl
    unfold DecOK
    rw [e, coefN_num]
    by_cases h30 : hi / 2 ^ 58 % 32 = 30
    · exact .inl (.inl h30)
    · by_cases h31 : hi / 2 ^ 58 % 32 = 31
      · exact .inl (.inr h31)
      · right
        by_cases h3 : hi / 2 ^ 61 % 4 = 3
        · exfalso; apply h h3
          unfold decOf; rw [if_neg h30, if_neg h31, if_pos h3]
        · refine ⟨h3, ?_⟩
          have hd : decOf hi lo = ⟨0, decide (hi / 2 ^ 63 = 1), decF (num (hi % 2 ^ 49) lo), ((hi / 2 ^ 49 % 16384 : Nat) : Int) - 6176⟩ := by
            unfold decOf; rw [if_neg h30, if_neg h31, if_neg h3]
          rw [hd] at hb
          exact (decF_len _ 34 (by decide)).1 (hb rfl)
  have key : (hi / 2 ^ 61 % 4 = 3 → (decOf hi lo).kind ≠ 0) → K w4 := fun h => hK w4 ⟨_, _, _, _, hv4.lies.row n64,
    (ret112 (decOf hi lo) w4 (by omega)).go fun v w5 ⟨a, b, hv⟩ hk5 => ⟨a, b, by rw [hv], fun _ => ⟨_, rfl, fun _ => fin h, hk4'.trans hk5⟩, fun _ => no _ (hk4'.trans hk5)⟩⟩
  refine ⟨by decide, _, fdiv_nat hi 61, _, a61, fun h3 => ⟨(decOf hi lo).kind, hv4.lies.at 0 rfl rfl, fun _ => no _ hk4', fun h0 => key fun _ => of_decide_eq_false h0⟩, fun h3 => key fun e => absurd (by rw [e]; rfl) (of_decide_eq_false h3)⟩
theorem decF_small' (n : Nat) (h : n < 10) : decF n = [UInt8.ofNat (48 + n)] := by
  unfold decF
  split
  · rename_i h0; subst h0; rfl
  · rename_i h0
    rw [digs_step n h0, Nat.div_eq_of_lt h, digs_zero, Nat.mod_eq_of_lt h]; rfl
theorem decF_step (n : Nat) (h : 10 ≤ n) : decF n = decF (n / 10) ++ [UInt8.ofNat (48 + n % 10)] := by
  have h0 : n ≠ 0 := by omega
  have h1 : n / 10 ≠ 0 := by omega
  unfold decF
  rw [if_neg h0, if_neg h1, digs_step n h0]
theorem decF_le (n : Nat) (h : n < 10000000000000000000) : (decF n).length ≤ 19 := (decF_len n 19 (by decide)).2 h
def decNum (n : Int) : List UInt8 := if n < 0 then 45 :: decF (-n).toNat else decF n.toNat
theorem ret65_nat : ∀ (m n : Nat), n < m → n < 9223372036854775808 → ∀ w, Ret 65 [.int .i64 (n : Int)] w (.string (mkS (decF n)))
  | 0, n, h, _, w => by omega
  | m + 1, n, h, hb, w => by
    refine Ret.of (c65 _ w _ ?_)
    unfold VC65
    refine ⟨fun h => absurd (of_decide_eq_true h) (by omega), fun _ => ⟨fun h10 => ?_, fun h10 => ?_⟩⟩
    · have h10 : n < 10 := by have := of_decide_eq_true h10; omega
      refine ⟨_, i64w (by omega) (by omega), _, u8w (by omega) (by omega), fun w2 hw2 => ?_⟩
      have e : 48 + (n : Int) = ((UInt8.ofNat (48 + n)).toNat : Int) := by rw [u8_toNat_ofNat _ (by omega)]; omega
      rw [decF_small' n h10]
      exact ⟨_, w2, digit_conv w w2 _ _ e hw2, rfl, by rw [hw2]; exact (Keeps.refl w).alloc _⟩
    · have h10 : 10 ≤ n := by have := of_decide_eq_false h10; omega
      have hdiv : Int.tdiv (n : Int) 10 = ((n / 10 : Nat) : Int) := by rw [Int.tdiv_eq_ediv_of_nonneg (by omega)]; omega
      have hmod : Int.tmod (n : Int) 10 = ((n % 10 : Nat) : Int) := by rw [Int.tmod_eq_emod_of_nonneg (by omega)]; omega
      rw [hdiv, hmod, decF_step n h10]
      have hr := ret65_nat m (n / 10) (by omega) (by omega)
      have hl := decF_le (n / 10) (by omega)
      generalize decF (n / 10) = t at *
      have e : 48 + ((n % 10 : Nat) : Int) = ((UInt8.ofNat (48 + n % 10)).toNat : Int) := by rw [u8_toNat_ofNat _ (by omega)]; omega
      refine ⟨[], trivial, by decide, _, i64w (by omega) (by omega), by decide, _, rfl, _, i64w (n := 48 + ((n % 10 : Nat) : Int)) (by omega) (by omega), _, u8w (by omega) (by omega), ?_, ?_⟩
      · refine (hr w.drew).go fun w3 hk3 => ⟨_, rfl, fun w4 hw4 => ⟨_, w4, digit_conv w3 w4 _ _ e hw4, ?_, rfl, ?_⟩⟩
        · simp; omega
        · rw [hw4]; exact (Keeps.trans ((Keeps.refl w).drew) hk3).alloc _
      · intro w6 hw6
        have hk6 : Keeps w w6 := by rw [hw6]; exact ((Keeps.refl w).drew).alloc _
        have hconv := digit_conv w.drew w6 _ _ e hw6
        have hO : Own w.heap.size w6 (some ⟨w.drew.heap.size, 0, none⟩) 1 1 [UInt8.ofNat (48 + n % 10)] := by
          rw [hw6, e]; exact Own.new w.heap.size w.drew [_] (Nat.le_refl _) (by simp)
        refine ⟨?_, ?_⟩
        · refine (hr w6).go fun w7 hk7 => ⟨_, rfl, _, w7, conv_string (n := 1) (hO.keeps hk7).reads rfl, ?_, rfl, hk6.trans hk7⟩
          simp; omega
        · refine ⟨_, w6, hconv, ?_⟩
          refine (hr w6).go fun w10 hk10 => ⟨_, rfl, ?_, rfl, hk6.trans hk10⟩
          simp; omega
theorem ret65 (n : Int) (h0 : -9223372036854775808 < n) (h1 : n < 9223372036854775808) (w : World) : Ret 65 [.int .i64 n] w (.string (mkS (decNum n))) := by
  by_cases hn : n < 0
  · refine Ret.of (c65 _ w _ ?_)
    unfold VC65 decNum
    rw [if_pos hn]
    have e : 0 - n = (((-n).toNat : Nat) : Int) := by omega
    have hl := decF_le (-n).toNat (by omega)
    refine ⟨fun _ => ⟨((-n).toNat : Int), by rw [e]; exact i64w (by omega) (by omega), ?_⟩, fun h => absurd (of_decide_eq_false h) (by omega)⟩
    exact (ret65_nat _ (-n).toNat (Nat.lt_succ_self _) (by omega) w).go fun w1 hk1 => ⟨_, rfl, by simp; omega, rfl, hk1⟩
  · have e : n = ((n.toNat : Nat) : Int) := by omega
    have : decNum n = decF n.toNat := by unfold decNum; rw [if_neg hn]
    rw [this]
    rw [e]
    exact ret65_nat _ n.toNat (Nat.lt_succ_self _) (by omega) w
theorem decNum_len (n : Int) (h0 : -9223372036854775808 < n) (h1 : n < 9223372036854775808) : (decNum n).length ≤ 20 := by
  unfold decNum
  split
  · have := decF_le (-n).toNat (by omega); simp; omega
  · have := decF_le n.toNat (by omega); omega
def decTextF (d : Dec) : List UInt8 :=
  let sign : List UInt8 := if d.neg then [45] else []
  if d.kind = 2 then [78, 97, 78]
  else if d.kind = 1 then sign ++ [73, 110, 102, 105, 110, 105, 116, 121]
  else
    let first := d.exp + d.ds.length - 1
    if 0 < d.exp ∨ first < -6 then
      let out := if 1 < d.ds.length then d.ds.take 1 ++ ([46] ++ d.ds.drop 1) else d.ds.take 1
      if 0 ≤ first then sign ++ out ++ [69, 43] ++ decNum first else sign ++ out ++ [69] ++ decNum first
    else if d.exp = 0 then sign ++ d.ds
    else
      let s := List.replicate ((-d.exp).toNat + 1 - d.ds.length) 48 ++ d.ds
      let k := ((s.length : Int) + d.exp).toNat
      sign ++ s.take k ++ [46] ++ s.drop k
theorem ret37 (d : Dec) (w : World) (h1 : 1 ≤ d.ds.length ∨ d.kind = 1 ∨ d.kind = 2) (h2 : d.ds.length ≤ 100) (h3 : -100000 ≤ d.exp) (h4 : d.exp ≤ 100000) : Ret 37 [.agg ⟨d.cells⟩] w (.string (mkS (decTextF d))) := by
  refine Ret.of (c37 _ _ _ _ w _ ?_)
  unfold VC37
  intro w1 hw1
  have hv : Var w1 w.heap.size 64 d.cells := by rw [hw1]; exact var_alloc w _ 64
  have hk : Keeps w w1 := by rw [hw1]; exact (Keeps.refl w).alloc _
  have ck : ∀ w', Keeps w1 w' → w'.cell? ⟨w.heap.size, 0, none⟩ = some (.int .i64 d.kind) ∧ w'.cell? ⟨w.heap.size, 2, none⟩ = some (.string (mkS d.ds)) ∧ w'.cell? ⟨w.heap.size, 3, none⟩ = some (.int .i64 d.exp) := fun w' hk' =>
    ⟨(hv.keeps hk').lies.at 0 rfl rfl, (hv.keeps hk').lies.at 2 rfl rfl, (hv.keeps hk').lies.at 3 rfl rfl⟩
  obtain ⟨c0, c2, c3⟩ := ck w1 (Keeps.refl _)
  intro K hK
  have key : ∀ sign : List UInt8, sign = (if d.neg then [45] else []) → K sign w1 := by
    intro sign hsign
    have hsl : sign.length ≤ 1 := by rw [hsign]; split <;> simp
    refine hK sign w1 ⟨d.kind, c0, fun hk2 => ⟨?_, hk⟩, fun hk2 => ⟨fun hk1 => ⟨by simp; omega, ?_, hk⟩, fun hk1 => ?_⟩⟩
    · unfold decTextF; rw [if_pos (of_decide_eq_true hk2)]
    · unfold decTextF; rw [if_neg (of_decide_eq_false hk2), if_pos (of_decide_eq_true hk1), hsign]
    · have hk2 := of_decide_eq_false hk2
      have hk1 := of_decide_eq_false hk1
      have hdl : 1 ≤ d.ds.length := by omega
      have hT : decTextF d = (if 0 < d.exp ∨ d.exp + d.ds.length - 1 < -6 then
          (if 0 ≤ d.exp + d.ds.length - 1 then sign ++ (if 1 < d.ds.length then d.ds.take 1 ++ ([46] ++ d.ds.drop 1) else d.ds.take 1) ++ [69, 43] ++ decNum (d.exp + d.ds.length - 1)
            else sign ++ (if 1 < d.ds.length then d.ds.take 1 ++ ([46] ++ d.ds.drop 1) else d.ds.take 1) ++ [69] ++ decNum (d.exp + d.ds.length - 1))
          else if d.exp = 0 then sign ++ d.ds
          else sign ++ (List.replicate ((-d.exp).toNat + 1 - d.ds.length) 48 ++ d.ds).take (((List.replicate ((-d.exp).toNat + 1 - d.ds.length) (48 : UInt8) ++ d.ds).length : Int) + d.exp).toNat ++ [46] ++ (List.replicate ((-d.exp).toNat + 1 - d.ds.length) 48 ++ d.ds).drop (((List.replicate ((-d.exp).toNat + 1 - d.ds.length) (48 : UInt8) ++ d.ds).length : Int) + d.exp).toNat) := by
        unfold decTextF; rw [if_neg hk2, if_neg hk1, ← hsign]
      rw [hT]
      refine ⟨d.ds, c2, d.exp, c3, _, i64w (n := d.exp + (d.ds.length : Int)) (by omega) (by omega), _, i64w (n := d.exp + (d.ds.length : Int) - 1) (by omega) (by omega), ?_⟩
      generalize hfirst : d.exp + (d.ds.length : Int) - 1 = first at *
      intro K1 hK1
      have k1 : ∀ b, (b = true ↔ 0 < d.exp ∨ first < -6) → K1 b w1 := by
        intro b hb
        refine hK1 b w1 ⟨fun hbt => ?_, fun hbt => ?_⟩
        · rw [if_pos (hb.1 hbt)]
          refine ⟨⟨by decide, by omega⟩, ?_⟩
          intro K2 hK2
          have k2 : ∀ out : List UInt8, out = (if 1 < d.ds.length then d.ds.take 1 ++ ([46] ++ d.ds.drop 1) else d.ds.take 1) → K2 out w1 := by
            intro out hout
            have hol : out.length ≤ 102 := by
              rw [hout]; split <;> simp <;> omega
            rw [← hout] at hK2
            have hdn := decNum_len first (by omega) (by omega)
            refine hK2 out w1 ⟨fun h0 => ?_, fun h0 => ?_⟩
            · have h0 := of_decide_eq_true h0
              refine ⟨by omega, by simp; omega, ?_⟩
              refine (ret65 first (by omega) (by omega) w1).go fun w5 hk5 => ⟨_, rfl, by simp; omega, ?_, hk.trans hk5⟩
              rw [if_pos h0]
            · have h0 := of_decide_eq_false h0
              refine ⟨by omega, by simp; omega, ?_⟩
              refine (ret65 first (by omega) (by omega) w1).go fun w5 hk5 => ⟨_, rfl, by simp; omega, ?_, hk.trans hk5⟩
              rw [if_neg h0]
          refine ⟨fun h => ⟨⟨by decide, by omega⟩, by simp; omega, by simp; omega, k2 _ (by rw [if_pos (by have := of_decide_eq_true h; omega)])⟩, fun h => k2 _ (by rw [if_neg (by have := of_decide_eq_false h; omega)])⟩
        · have hnb : ¬ (0 < d.exp ∨ first < -6) := fun e => by rw [hb.2 e] at hbt; cases hbt
          rw [if_neg hnb]
          refine ⟨d.exp, c3, fun h0 => ⟨by omega, ?_, hk⟩, fun h0 => ?_⟩
          · rw [if_pos (of_decide_eq_true h0)]
          · have h0 := of_decide_eq_false h0
            rw [if_neg h0]
            have hexp : d.exp < 0 := by omega
            generalize hS : List.replicate ((-d.exp).toNat + 1 - d.ds.length) (48 : UInt8) ++ d.ds = S
            have hSl : S.length = (-d.exp).toNat + 1 - d.ds.length + d.ds.length := by rw [← hS]; simp
            refine ⟨fun m s w7 => w7 = w1 ∧ ∃ j : Nat, s = List.replicate j 48 ++ d.ds ∧ j ≤ (-d.exp).toNat + 1 - d.ds.length ∧ m = (-d.exp).toNat + 1 - d.ds.length - j, ⟨_, rfl, 0, by simp, by omega, rfl⟩, ?_⟩
            rintro m s w7 ⟨rfl, j, rfl, hj, rfl⟩
            have hjl : (List.replicate j (48 : UInt8) ++ d.ds).length = j + d.ds.length := by simp
            refine ⟨d.exp, c3, _, i64w (n := 0 - d.exp) (by omega) (by omega), fun hle => ?_, fun hgt => ?_⟩
            · have hle := of_decide_eq_true hle
              rw [hjl] at hle
              refine ⟨by simp; omega, (-d.exp).toNat + 1 - d.ds.length - (j + 1), by omega, rfl, j + 1, ?_, by omega, rfl⟩
              rw [List.replicate_succ]; rfl
            · have hgt := of_decide_eq_false hgt
              rw [hjl] at hgt
              have hje : j = (-d.exp).toNat + 1 - d.ds.length := by omega
              rw [← hje] at hS
              rw [hS]
              rw [hS] at hjl
              have htk : (S.take ((S.length : Int) + d.exp).toNat).length ≤ S.length := by rw [List.length_take]; omega
              have hdr : (S.drop ((S.length : Int) + d.exp).toNat).length ≤ S.length := by rw [List.length_drop]; omega
              refine ⟨d.exp, c3, _, i64w (n := (S.length : Int) + d.exp) (by omega) (by omega), ⟨by omega, by omega⟩, by omega, ?_, ⟨by omega, by omega⟩, ?_, rfl, hk.drew⟩
              · rw [List.length_append, List.length_singleton]; omega
              · rw [List.length_append, List.length_append, List.length_singleton]; omega
      refine ⟨d.exp, c3, fun h => k1 _ ?_, fun h => k1 _ ?_⟩
      · have := of_decide_eq_true h; simp [this]
      · have := of_decide_eq_false h; simp only [decide_eq_true_eq]; omega
  refine ⟨d.neg, hv.lies.at 1 rfl rfl, fun h => key _ (by rw [h]; rfl), fun h => key _ (by rw [h]; rfl)⟩
end Go.Proofs.Tryz
set_option linter.unusedVariables false
set_option maxRecDepth 100000
namespace Go.Proofs.Tryz
open Go.Vc
def VC34 (i : Int) (aa : Int) (w : World) (R : RR) : Prop :=
 Calls prog 63 ⟨[.int .i64 i, .int .i64 aa]⟩ w fun e w1 => ∃ x7 : Bs, e = .returned (.string (mkS x7)) ∧
 R (.string (mkS x7)) w1
def an34 : Ann :=
 .k .z
 (.k (.t [.q, .q, .s [.str]])
 .l)
theorem c34 (i : Int) (aa : Int) (w : World) (R : RR) (hvc : VC34 i aa w R) : CR 34 [.int .i64 i, .int .i64 aa] w R :=
 vcc (fn := f34) (ann := an34) hvc (by kernel_rfl) (by kernel_rfl)
def VC36 (i : Int) (aa : Int) (w : World) (R : RR) : Prop :=
 Calls prog 64 ⟨[.int .u64 i, .int .i64 aa]⟩ w fun e w1 => ∃ x7 : Bs, e = .returned (.string (mkS x7)) ∧
 R (.string (mkS x7)) w1
def an36 : Ann :=
 .k .z
 (.k (.t [.q, .q, .s [.str]])
 .l)
theorem c36 (i : Int) (aa : Int) (w : World) (R : RR) (hvc : VC36 i aa w R) : CR 36 [.int .u64 i, .int .i64 aa] w R :=
 vcc (fn := f36) (ann := an36) hvc (by kernel_rfl) (by kernel_rfl)
def VC64 (i : Int) (ab : Int) (w : World) (R : RR) : Prop :=
 (decide (ab = 10) = true →
 (decide (i < 100) = true →
 ∃ x14 : Int, IntKind.i64.wrap i = x14 ∧
 Calls prog 118 ⟨[.int .i64 x14]⟩ w fun e w1 => ∃ x15 : Bs, e = .returned (.string (mkS x15)) ∧
 R (.string (mkS x15)) w1) ∧ (decide (i < 100) = false →
 ∀ w2, w2 = w.alloc (.cells ⟨[.int .u8 0, .int .u8 0, .int .u8 0, .int .u8 0, .int .u8 0, .int .u8 0, .int .u8 0, .int .u8 0, .int .u8 0, .int .u8 0, .int .u8 0, .int .u8 0, .int .u8 0, .int .u8 0, .int .u8 0, .int .u8 0, .int .u8 0, .int .u8 0, .int .u8 0, .int .u8 0, .int .u8 0, .int .u8 0, .int .u8 0, .int .u8 0]⟩ 174) →
 Calls prog 119 ⟨[.int .u64 i]⟩ w2 fun e w3 => ∃ x17 : Int, e = .returned (.int .i64 x17) ∧
 ((0 : Int) ≤ x17 ∧ x17 ≤ (24 : Int)) ∧
 Calls prog 120 ⟨[.slice (some (⟨w.heap.size, 0, none⟩)) x17.toNat 24, .int .u64 i]⟩ w3 fun e w4 => e = .returned (.tuple ⟨[]⟩) ∧
 ((0 : Int) ≤ x17 ∧ x17 ≤ (24 : Int)) ∧
 ∃ x24 : Bs, ∃ w5, (convert 23 9 (.slice (some (⟨w.heap.size, 0, none⟩)) x17.toNat 24)).run prog w4 = .ok (.string (mkS x24)) w5 ∧
 R (.string (mkS x24)) w5)) ∧ (decide (ab = 10) = false →
 Calls prog 121 ⟨[.slice none 0 0, .int .u64 i, .int .i64 ab, .bool false, .bool false]⟩ w fun e w6 => ∃ (x28 : Ptr) (ac ad : Nat), ∃ aa : Bs, e = .returned (.tuple ⟨[.slice x28 ac ad, .string (mkS aa)]⟩) ∧
 R (.string (mkS aa)) w6)
def an64 : Ann :=
 .k .z
 (.k (.k .z
 (.cond 1 2 (.k (.k .z
 (.cond 3 4 (.k (.t [.q, .q, .s [.str]])
 .l) .l))
 (.k .z
 (.k (.t [.q, .s [.int .i64]])
 (.k (.t [.q, .q, .q, .s []])
 (.k (.t [.q, .q, .s [.str]])
 .l))))) .l))
 (.k (.t [.q, .q, .s [.slice, .str]])
 .zl))
theorem c64 (i : Int) (aa : Int) (w : World) (R : RR) (hvc : VC64 i aa w R) : CR 64 [.int .u64 i, .int .i64 aa] w R :=
 vcc (fn := f64) (ann := an64) hvc (by kernel_rfl) (by kernel_rfl)
def VC23 (s : Bs) (x1 : Addr) (w : World) (R : RR) : Prop :=
 ∃ x5 : Bool, w.cell? x1 = some (.bool x5) ∧
 Calls prog 24 ⟨[.string (mkS s), .bool x5]⟩ w fun e w1 => ∃ x6 : Bs, e = .returned (.string (mkS x6)) ∧
 R (.string (mkS x6)) w1
def an23 : Ann :=
 .k .z
 (.k (.t [.q, .s [.bool], .s [.str]])
 .l)
theorem c23 (s : Bs) (x1 : Addr) (w : World) (R : RR) (hvc : VC23 s x1 w R) : CR 23 [.string (mkS s), .pointer (some x1)] w R :=
 vcc (fn := f23) (ann := an23) hvc (by kernel_rfl) (by kernel_rfl)
def VC25 (aa : Bs) (s : Bs) (w : World) (R : RR) : Prop :=
 [123, 34].length + aa.length ≤ 9223372036854775807 ∧
 ([123, 34] ++ aa).length + [34, 58].length ≤ 9223372036854775807 ∧
 (([123, 34] ++ aa) ++ [34, 58]).length + s.length ≤ 9223372036854775807 ∧
 ((([123, 34] ++ aa) ++ [34, 58]) ++ s).length + [125].length ≤ 9223372036854775807 ∧
 R (.tuple ⟨[.string (mkS (((([123, 34] ++ aa) ++ [34, 58]) ++ s) ++ [125])), .bool true]⟩) w
def an25 : Ann :=
 .k .z
 .zl
theorem c25 (aa : Bs) (s : Bs) (w : World) (R : RR) (hvc : VC25 aa s w R) : CR 25 [.string (mkS aa), .string (mkS s)] w R :=
 vcc (fn := f25) (ann := an25) hvc (by kernel_rfl) (by kernel_rfl)
end Go.Proofs.Tryz
set_option linter.unusedVariables false
namespace Go.Proofs.Tryz
open Go.Vc Go.RowKit Go.Sort
theorem tabIs_keeps {w w' : World} (hk : Keeps w w') {name : String} {k : IntKind} {zs : List Int} (h : Lib.TabIs prog w name k zs) : Lib.TabIs prog w' name k zs := by
  unfold Lib.TabIs World.var? at *
  cases hg : prog.globalNamed name with
  | none => simp [hg] at h
  | some g =>
    simp only [hg, Option.bind_some] at h ⊢
    have hlt : g < w.heap.size := by
      rcases Nat.lt_or_ge g w.heap.size with h' | h'
      · exact h'
      · rw [Array.getElem?_eq_none h'] at h; simp at h
    rw [Below.block hk g hlt]
    exact h
theorem decF_lib : ∀ (m n : Nat), n < m → Lib.decDigits n = decF n
  | 0, n, h => by omega
  | m + 1, n, h => by
    rw [Lib.decDigits]
    split
    · rename_i h10; exact (decF_small' n h10).symm
    · rename_i h10
      rw [decF_step n (by omega), decF_lib m (n / 10) (by omega)]
theorem decF_dig (n : Nat) : Lib.decDigits n = decF n := decF_lib (n + 1) n (Nat.lt_succ_self _)
theorem decNum_itoa (n : Int) : Lib.itoa n = decNum n := by
  unfold Lib.itoa decNum
  split
  · rw [decF_dig]; congr 2; omega
  · rw [decF_dig]
theorem toArray_mkS (l : List UInt8) : (⟨l.toArray⟩ : ByteArray) = mkS l := rfl
theorem keeps_grow (w : World) (k : Nat) (os : Array Obj) : Keeps w (grow (w.drewN k) os) :=
  ⟨rfl, rfl, rfl, by simp [grow, World.drewN], fun j hj => by
    show (w.heap ++ os)[j]? = _
    rw [Array.getElem?_append_left hj]⟩
abbrev Pow (w : World) : Prop := Lib.TabIs prog w "internal/strconv.uint64pow10" .u64 Lib.pow10Tab
theorem ret34 (n : Int) (h0 : -9223372036854775808 ≤ n) (h1 : n ≤ 9223372036854775807) (w : World) (ht : Pow w) : Ret 34 [.int .i64 n, .int .i64 10] w (.string (mkS (decNum n))) := by
  refine Ret.of (c34 _ _ w _ ?_)
  unfold VC34
  refine (internal_strconv_FormatInt_10 n h0 h1 w ht).mono ?_
  rintro e w' ⟨rfl, k, os, rfl⟩
  refine ⟨decNum n, ?_, rfl, keeps_grow w k os⟩
  rw [toArray_mkS, decNum_itoa]
theorem zeros24_list : Lib.zeros24 = ⟨[.int .u8 0, .int .u8 0, .int .u8 0, .int .u8 0, .int .u8 0, .int .u8 0, .int .u8 0, .int .u8 0, .int .u8 0, .int .u8 0, .int .u8 0, .int .u8 0, .int .u8 0, .int .u8 0, .int .u8 0, .int .u8 0, .int .u8 0, .int .u8 0, .int .u8 0, .int .u8 0, .int .u8 0, .int .u8 0, .int .u8 0, .int .u8 0]⟩ := rfl
theorem ret36 (n : Nat) (h1 : n < 18446744073709551616) (w : World) (ht : Pow w) : Ret 36 [.int .u64 (n : Int), .int .i64 10] w (.string (mkS (decF n))) := by
  refine Ret.of (c36 _ _ w _ ?_)
  unfold VC36
  have h64 : Ret 64 [.int .u64 (n : Int), .int .i64 10] w (.string (mkS (decF n))) := by
    refine Ret.of (c64 _ _ w _ ?_)
    unfold VC64
    refine ⟨fun _ => ⟨fun hs => ?_, fun hs => ?_⟩, fun h => absurd (of_decide_eq_false h) (by decide)⟩
    · have hs := of_decide_eq_true hs
      refine ⟨_, i64w (by omega) (by omega), ?_⟩
      refine (internal_strconv_small n (by omega) w).mono ?_
      rintro e w' ⟨rfl, rfl⟩
      exact ⟨decF n, by rw [toArray_mkS, decF_dig], rfl, Keeps.refl _⟩
    · have hs := of_decide_eq_false hs
      intro w2 hw2
      have hk2 : Keeps w w2 := by rw [hw2]; exact (Keeps.refl w).alloc _
      refine (internal_strconv_numDigits n (by omega) h1 w2 (tabIs_keeps hk2 ht)).mono ?_
      rintro e w3 ⟨rfl, rfl⟩
      have hd20 := Lib.nDigits_le20 n h1
      refine ⟨_, rfl, ⟨by omega, by omega⟩, ?_⟩
      have etn : ((Lib.nDigits n : Nat) : Int).toNat = Lib.nDigits n := rfl
      rw [etn]
      have hH : Holds (fun (b : UInt8) => Value.int .u8 (b.toNat : Int)) w3 w.heap.size 0 (Array.replicate (Lib.nDigits n) (0 : UInt8)) := by
        intro j hj
        have hj' : j < Lib.nDigits n := by simpa using hj
        rw [hw2, ← zeros24_list]
        refine ⟨?_, World.frozen?_alloc_new _ _ _ _⟩
        rw [World.cell?_alloc_new, Lib.zeros24_at _ (by omega), getElem!_pos _ j hj]
        simp
      have hsz : (Array.replicate (Lib.nDigits n) (0 : UInt8)).size = Lib.nDigits n := by simp
      have hlt : n < 10 ^ Lib.nDigits n := by
        have := (decF_len n (Lib.nDigits n) (Lib.nDigits_pos n)).1 (by rw [← decF_dig, Lib.decDigits_length]; exact Nat.le_refl _)
        exact this
      have hcall := internal_strconv_formatBase10 w.heap.size 0 24 n (Array.replicate (Lib.nDigits n) (0 : UInt8)) w3 hH (by rw [hsz]; exact hlt) h1 (by rw [hsz]; omega)
      rw [hsz] at hcall
      refine hcall.mono ?_
      rintro e w4 ⟨rfl, m, v', dk, hw4, hinv⟩
      have hkeep : Keeps w w4 := by
        rw [hw4, hw2, alloc_eq_grow]
        obtain ⟨os', _, e⟩ := putRow_grow_new (fun (b : UInt8) => Value.int .u8 (b.toNat : Int)) w #[_] w.heap.size 0 dk (Nat.le_refl _)
        rw [e]
        exact keeps_grow w m os'
      have hdl : (decF n).length = Lib.nDigits n := by rw [← decF_dig, Lib.decDigits_length]
      have hdks : dk.size = Lib.nDigits n := hinv.size
      have hr : ReadsB w4 (some ⟨w.heap.size, 0, none⟩) (decF n) := by
        intro j b hj
        have hjl := (List.getElem?_eq_some_iff.1 hj).1
        refine ⟨_, rfl, ?_⟩
        rw [add_at, hw4]
        have hc := cell?_putRow (fun (b : UInt8) => Value.int .u8 (b.toNat : Int)) w3 w.heap.size 0 (Array.replicate (Lib.nDigits n) (0 : UInt8)) dk hH (by rw [hdks]; simp) j (by omega)
        have hnum := Lib.row_is_numeral hinv j (by rw [decF_dig]; exact hjl)
        have hb : (decF n)[j]'hjl = b := (List.getElem?_eq_some_iff.1 hj).2
        have hnum' : (Lib.decDigits n)[j]? = some (dk[j]!) := by rw [List.getElem?_eq_getElem (by rw [decF_dig]; exact hjl), hnum]
        rw [decF_dig, hj] at hnum'
        have hbd : b = dk[j]! := Option.some.inj hnum'
        rw [hbd]
        exact hc
      exact ⟨rfl, ⟨by omega, by omega⟩, _, w4, conv_string hr hdl.symm, rfl, hkeep⟩
  exact h64.go fun w1 hk1 => ⟨_, rfl, rfl, hk1⟩
end Go.Proofs.Tryz
set_option linter.unusedVariables false
set_option maxRecDepth 100000
namespace Go.Proofs.Tryz
open Go.Vc
def VC27 (f : Nat) (w : World) (R : RR) : Prop :=
 Calls prog 28 ⟨[.float .f64 f]⟩ w fun e w1 => ∃ x7 : Bool, e = .returned (.bool x7) ∧
 (x7 = true →
 R (.string (mkS [78, 97, 78])) w1) ∧ (x7 = false →
 Calls prog 29 ⟨[.float .f64 f, .int .i64 1]⟩ w1 fun e w2 => ∃ x10 : Bool, e = .returned (.bool x10) ∧
 (x10 = true →
 R (.string (mkS [73, 110, 102, 105, 110, 105, 116, 121])) w2) ∧ (x10 = false →
 Calls prog 29 ⟨[.float .f64 f, .int .i64 (-1)]⟩ w2 fun e w3 => ∃ x13 : Bool, e = .returned (.bool x13) ∧
 (x13 = true →
 R (.string (mkS [45, 73, 110, 102, 105, 110, 105, 116, 121])) w3) ∧ (x13 = false →
 Calls prog 61 ⟨[.float .f64 f, .int .u8 71, .int .i64 (-1), .int .i64 64]⟩ w3 fun e w4 => ∃ x15 : Bs, e = .returned (.string (mkS x15)) ∧
 ∃ Ix : Nat → Int → World → Prop, (∃ m_2, Ix m_2 0 w4) ∧
 ∀ m, ∀ i : Int, ∀ w5, Ix m i w5 →
 (decide (i < (x15.length : Int)) = true →
 ∃ x24 : UInt8, ((0 : Int) ≤ i ∧ x15[i.toNat]? = some x24) ∧
 (decide ((x24.toNat : Int) = 46) = true →
 R (.string (mkS x15)) w5) ∧ (decide ((x24.toNat : Int) = 46) = false →
 ∃ x29 : UInt8, ((0 : Int) ≤ i ∧ x15[i.toNat]? = some x29) ∧
 (decide ((x29.toNat : Int) = 69) = true →
 R (.string (mkS x15)) w5) ∧ (decide ((x29.toNat : Int) = 69) = false →
 ∃ x21 : Int, IntKind.i64.wrap (i + 1) = x21 ∧
 ∃ m_1, m_1 < m ∧ Ix m_1 x21 w5))) ∧ (decide (i < (x15.length : Int)) = false →
 x15.length + [46, 48].length ≤ 9223372036854775807 ∧
 R (.string (mkS (x15 ++ [46, 48]))) w5))))
def an27 : Ann :=
 .k .z
 (.k (.block (.k (.t [.q, .s [.bool]])
 (.cond 1 2 .zl (.k (.t [.q, .s [.bool]])
 (.cond 3 4 .zl (.k (.t [.q, .s [.bool]])
 (.cond 5 6 .zl .l)))))))
 (.k (.t [.q, .s [.str]])
 (.k (.k .z
 (.block (.loop [(4, .int .i64)] [3] (.k (.k .z
 (.cond 7 8 .l .l))
 (.k (.block (.k (.t [.q, .q, .q, .q, .q, .gs .n 9 10])
 (.on 10 (.cond 11 12 .zl .l) (.yes .zl))))
 .z)))))
 .zl)))
theorem c27 (f : Nat) (w : World) (R : RR) (hvc : VC27 f w R) : CR 27 [.float .f64 f] w R :=
 vcc (fn := f27) (ann := an27) hvc (by kernel_rfl) (by kernel_rfl)
def VC28 (f : Nat) (w : World) (R : RR) : Prop :=
 R (.bool (FloatKind.f64.format.order f f != some .eq)) w
def an28 : Ann :=
 .k .z
 .zl
theorem c28 (f : Nat) (w : World) (R : RR) (hvc : VC28 f w R) : CR 28 [.float .f64 f] w R :=
 vcc (fn := f28) (ann := an28) hvc (by kernel_rfl) (by kernel_rfl)
def VC29 (f : Nat) (aa : Int) (w : World) (R : RR) : Prop :=
 (decide (aa = 0) = true →
 Calls prog 62 ⟨[.float .f64 f]⟩ w fun e w1 => ∃ x8 : Nat, e = .returned (.float .f64 x8) ∧
 R (.bool (FloatKind.f64.format.order x8 9218868437227405311 == some .gt)) w1) ∧ (decide (aa = 0) = false →
 (decide (aa < 0) = true →
 ∃ x12 : Nat, ∃ w2, (Op.unary .neg (.float .f64 f)).run prog w = .ok (.float .f64 x12) w2 ∧
 R (.bool (FloatKind.f64.format.order x12 9218868437227405311 == some .gt)) w2) ∧ (decide (aa < 0) = false →
 R (.bool (FloatKind.f64.format.order f 9218868437227405311 == some .gt)) w))
def an29 : Ann :=
 .k .z
 (.k (.k .z
 (.cond 1 2 (.t [.q, .s [.float]]) (.k .z
 (.cond 3 4 (.t [.q, .s [.float]]) .l))))
 .zl)
theorem c29 (f : Nat) (aa : Int) (w : World) (R : RR) (hvc : VC29 f aa w R) : CR 29 [.float .f64 f, .int .i64 aa] w R :=
 vcc (fn := f29) (ann := an29) hvc (by kernel_rfl) (by kernel_rfl)
def VC62 (x : Nat) (w : World) (R : RR) : Prop :=
 ∃ x4 : Int, ∃ w1, (callFunc 57 ⟨[.float .f64 x]⟩).run prog w = .ok (.value (.int .u64 x4)) w1 ∧
 ∃ x5 : Int, bits .andNot .u64 x4 9223372036854775808 = x5 ∧
 ∃ x6 : Nat, ∃ w2, (callFunc 26 ⟨[.int .u64 x5]⟩).run prog w1 = .ok (.value (.float .f64 x6)) w2 ∧
 R (.float .f64 x6) w2
def an62 : Ann :=
 .k .z
 (.k (.t [.q, .s [.int .u64], .q, .s [.float]])
 .l)
theorem c62 (x : Nat) (w : World) (R : RR) (hvc : VC62 x w R) : CR 62 [.float .f64 x] w R :=
 vcc (fn := f62) (ann := an62) hvc (by kernel_rfl) (by kernel_rfl)
def VC9 (cy : Int) (cz : Bs) (da : Bs) (xN : Int) (db : Int) (dc : Int) (xB : Ptr) (dd de : Nat) (df : Ptr) (dg dh : Nat) (di : Bool) (dj : Bool) (w : World) (R : RR) : Prop :=
 ∀ w1, w1 = w.alloc (.cells ⟨[.int .i64 cy, .string (mkS cz), .string (mkS da), .int .i64 xN, .int .u64 db, .int .u64 dc, .slice xB dd de, .slice df dg dh]⟩ 26) →
 ∀ w2, w2 = w1.alloc (.cells ⟨[.bool dj]⟩ 4) →
 ∃ x16 : Int, w2.cell? ⟨w.heap.size, 0, none⟩ = some (.int .i64 x16) ∧
 (decide (x16 = 1) = true →
 ∃ x20 : Int, w2.cell? ⟨w.heap.size, 4, none⟩ = some (.int .u64 x20) ∧
 ∃ x21 : Nat, ∃ w3, (callFunc 26 ⟨[.int .u64 x20]⟩).run prog w2 = .ok (.value (.float .f64 x21)) w3 ∧
 Calls prog 27 ⟨[.float .f64 x21]⟩ w3 fun e w4 => ∃ x23 : Bs, e = .returned (.string (mkS x23)) ∧
 ∀ Kx : Bool → World → Prop, (∀ x32 : Bool, ∀ w5,
 ((x32 = true →
 [34].length + x23.length ≤ 9223372036854775807 ∧
 ([34] ++ x23).length + [34].length ≤ 9223372036854775807 ∧
 Calls prog 25 ⟨[.string (mkS [36, 110, 117, 109, 98, 101, 114, 68, 111, 117, 98, 108, 101]), .string (mkS (([34] ++ x23) ++ [34]))]⟩ w5 fun e w6 => ∃ x37 : Bs, ∃ aa : Bool, e = .returned (.tuple ⟨[.string (mkS x37), .bool aa]⟩) ∧
 R (.tuple ⟨[.string (mkS x37), .bool aa]⟩) w6) ∧ (x32 = false →
 R (.tuple ⟨[.string (mkS x23), .bool true]⟩) w5)) → Kx x32 w5) →
 (di = true →
 Kx true w4) ∧ (di = false →
 Calls prog 28 ⟨[.float .f64 x21]⟩ w4 fun e w7 => ∃ x27 : Bool, e = .returned (.bool x27) ∧
 (x27 = true →
 Kx true w7) ∧ (x27 = false →
 Calls prog 29 ⟨[.float .f64 x21, .int .i64 0]⟩ w7 fun e w8 => ∃ x31 : Bool, e = .returned (.bool x31) ∧
 Kx x31 w8))) ∧ (decide (x16 = 1) = false →
 (decide (x16 = 2) = true →
 ∃ x45 : Bs, w2.cell? ⟨w.heap.size, 1, none⟩ = some (.string (mkS x45)) ∧
 Calls prog 23 ⟨[.string (mkS x45), .pointer (some (⟨w1.heap.size, 0, none⟩))]⟩ w2 fun e w9 => ∃ x46 : Bs, e = .returned (.string (mkS x46)) ∧
 R (.tuple ⟨[.string (mkS x46), .bool true]⟩) w9) ∧ (decide (x16 = 2) = false →
 ∀ ab : Bool → World → Prop, (∀ x47 : Bool, ∀ w10,
 ((x47 = true →
 ∃ x50 : Int, ∃ ac ad : Bs, ∃ ae af ag : Int, ∃ (cu : Ptr) (dk dl : Nat), ∃ (cv : Ptr) (dm dn : Nat), LoadsRow prog 26 w10 ⟨w.heap.size, 0, none⟩ [.int .i64 x50, .string (mkS ac), .string (mkS ad), .int .i64 ae, .int .u64 af, .int .u64 ag, .slice cu dk dl, .slice cv dm dn] ∧
 ∃ x52 : Bool, w10.cell? ⟨w1.heap.size, 0, none⟩ = some (.bool x52) ∧
 Calls prog 30 ⟨[.agg ⟨[.int .i64 x50, .string (mkS ac), .string (mkS ad), .int .i64 ae, .int .u64 af, .int .u64 ag, .slice cu dk dl, .slice cv dm dn]⟩, .bool di, .bool x52]⟩ w10 fun e w11 => ∃ x53 : Bs, ∃ ah : Bool, e = .returned (.tuple ⟨[.string (mkS x53), .bool ah]⟩) ∧
 R (.tuple ⟨[.string (mkS x53), .bool ah]⟩) w11) ∧ (x47 = false →
 (decide (x16 = 5) = true →
 ∃ f : List (Addr × Value), Kept w10 f ∧
 ∃ (x60 : Ptr) (dp dq : Nat), (⟨w.heap.size, 6, none⟩, .slice x60 dp dq) ∈ f ∧
 ∃ x65 : Int, (⟨w.heap.size, 3, none⟩, .int .i64 x65) ∈ f ∧
 ∃ x66 : Int, IntKind.u8.wrap x65 = x66 ∧
 Calls prog 31 ⟨[.slice x60 dp dq]⟩ w10.drew fun e w12 => ∃ x61 : Bs, e = .returned (.string (mkS x61)) ∧
 Kept w12 f ∧ [123, 34, 98, 97, 115, 101, 54, 52, 34, 58, 34].length + x61.length ≤ 9223372036854775807 ∧
 ([123, 34, 98, 97, 115, 101, 54, 52, 34, 58, 34] ++ x61).length + [34, 44, 34, 115, 117, 98, 84, 121, 112, 101, 34, 58, 34].length ≤ 9223372036854775807 ∧
 Calls prog 32 ⟨[.int .u8 x66]⟩ w12 fun e w13 => ∃ x67 : Bs, e = .returned (.string (mkS x67)) ∧
 (([123, 34, 98, 97, 115, 101, 54, 52, 34, 58, 34] ++ x61) ++ [34, 44, 34, 115, 117, 98, 84, 121, 112, 101, 34, 58, 34]).length + x67.length ≤ 9223372036854775807 ∧
 ((([123, 34, 98, 97, 115, 101, 54, 52, 34, 58, 34] ++ x61) ++ [34, 44, 34, 115, 117, 98, 84, 121, 112, 101, 34, 58, 34]) ++ x67).length + [34, 125].length ≤ 9223372036854775807 ∧
 Calls prog 25 ⟨[.string (mkS [36, 98, 105, 110, 97, 114, 121]), .string (mkS (((([123, 34, 98, 97, 115, 101, 54, 52, 34, 58, 34] ++ x61) ++ [34, 44, 34, 115, 117, 98, 84, 121, 112, 101, 34, 58, 34]) ++ x67) ++ [34, 125]))]⟩ w13 fun e w14 => ∃ x70 : Bs, ∃ ai : Bool, e = .returned (.tuple ⟨[.string (mkS x70), .bool ai]⟩) ∧
 R (.tuple ⟨[.string (mkS x70), .bool ai]⟩) w14) ∧ (decide (x16 = 5) = false →
 (decide (x16 = 6) = true →
 Calls prog 25 ⟨[.string (mkS [36, 117, 110, 100, 101, 102, 105, 110, 101, 100]), .string (mkS [116, 114, 117, 101])]⟩ w10 fun e w15 => ∃ x76 : Bs, ∃ aj : Bool, e = .returned (.tuple ⟨[.string (mkS x76), .bool aj]⟩) ∧
 R (.tuple ⟨[.string (mkS x76), .bool aj]⟩) w15) ∧ (decide (x16 = 6) = false →
 (decide (x16 = 7) = true →
 ∃ (x83 : Ptr) (dr ds : Nat), w10.cell? ⟨w.heap.size, 6, none⟩ = some (.slice x83 dr ds) ∧
 Calls prog 33 ⟨[.slice x83 dr ds]⟩ w10 fun e w16 => ∃ x84 : Bs, e = .returned (.string (mkS x84)) ∧
 Calls prog 25 ⟨[.string (mkS [36, 111, 105, 100]), .string (mkS x84)]⟩ w16 fun e w17 => ∃ x85 : Bs, ∃ ak : Bool, e = .returned (.tuple ⟨[.string (mkS x85), .bool ak]⟩) ∧
 R (.tuple ⟨[.string (mkS x85), .bool ak]⟩) w17) ∧ (decide (x16 = 7) = false →
 (decide (x16 = 8) = true →
 ∃ x91 : Int, w10.cell? ⟨w.heap.size, 3, none⟩ = some (.int .i64 x91) ∧
 (decide (x91 = 1) = true →
 R (.tuple ⟨[.string (mkS [116, 114, 117, 101]), .bool true]⟩) w10) ∧ (decide (x91 = 1) = false →
 R (.tuple ⟨[.string (mkS [102, 97, 108, 115, 101]), .bool true]⟩) w10)) ∧ (decide (x16 = 8) = false →
 (decide (x16 = 9) = true →
 ∃ x97 : Int, w10.cell? ⟨w.heap.size, 3, none⟩ = some (.int .i64 x97) ∧
 Calls prog 34 ⟨[.int .i64 x97, .int .i64 10]⟩ w10 fun e w18 => ∃ x98 : Bs, e = .returned (.string (mkS x98)) ∧
 [123, 34, 36, 110, 117, 109, 98, 101, 114, 76, 111, 110, 103, 34, 58, 34].length + x98.length ≤ 9223372036854775807 ∧
 ([123, 34, 36, 110, 117, 109, 98, 101, 114, 76, 111, 110, 103, 34, 58, 34] ++ x98).length + [34, 125].length ≤ 9223372036854775807 ∧
 Calls prog 25 ⟨[.string (mkS [36, 100, 97, 116, 101]), .string (mkS (([123, 34, 36, 110, 117, 109, 98, 101, 114, 76, 111, 110, 103, 34, 58, 34] ++ x98) ++ [34, 125]))]⟩ w18 fun e w19 => ∃ al : Bs, ∃ am : Bool, e = .returned (.tuple ⟨[.string (mkS al), .bool am]⟩) ∧
 R (.tuple ⟨[.string (mkS al), .bool am]⟩) w19) ∧ (decide (x16 = 9) = false →
 (decide (x16 = 10) = true →
 R (.tuple ⟨[.string (mkS [110, 117, 108, 108]), .bool true]⟩) w10) ∧ (decide (x16 = 10) = false →
 (decide (x16 = 11) = true →
 ∃ f_1 : List (Addr × Value), Kept w10 f_1 ∧
 ∃ ao : Bs, (⟨w.heap.size, 1, none⟩, .string (mkS ao)) ∈ f_1 ∧
 ∃ ap : Bs, (⟨w.heap.size, 2, none⟩, .string (mkS ap)) ∈ f_1 ∧
 Calls prog 23 ⟨[.string (mkS ao), .pointer (some (⟨w1.heap.size, 0, none⟩))]⟩ w10.drew fun e w20 => ∃ aq : Bs, e = .returned (.string (mkS aq)) ∧
 Kept w20 f_1 ∧ [123, 34, 112, 97, 116, 116, 101, 114, 110, 34, 58].length + aq.length ≤ 9223372036854775807 ∧
 ([123, 34, 112, 97, 116, 116, 101, 114, 110, 34, 58] ++ aq).length + [44, 34, 111, 112, 116, 105, 111, 110, 115, 34, 58].length ≤ 9223372036854775807 ∧
 Calls prog 35 ⟨[.string (mkS ap)]⟩ w20 fun e w21 => ∃ ar : Bs, e = .returned (.string (mkS ar)) ∧
 Calls prog 23 ⟨[.string (mkS ar), .pointer (some (⟨w1.heap.size, 0, none⟩))]⟩ w21 fun e w22 => ∃ au : Bs, e = .returned (.string (mkS au)) ∧
 (([123, 34, 112, 97, 116, 116, 101, 114, 110, 34, 58] ++ aq) ++ [44, 34, 111, 112, 116, 105, 111, 110, 115, 34, 58]).length + au.length ≤ 9223372036854775807 ∧
 ((([123, 34, 112, 97, 116, 116, 101, 114, 110, 34, 58] ++ aq) ++ [44, 34, 111, 112, 116, 105, 111, 110, 115, 34, 58]) ++ au).length + [125].length ≤ 9223372036854775807 ∧
 Calls prog 25 ⟨[.string (mkS [36, 114, 101, 103, 117, 108, 97, 114, 69, 120, 112, 114, 101, 115, 115, 105, 111, 110]), .string (mkS (((([123, 34, 112, 97, 116, 116, 101, 114, 110, 34, 58] ++ aq) ++ [44, 34, 111, 112, 116, 105, 111, 110, 115, 34, 58]) ++ au) ++ [125]))]⟩ w22 fun e w23 => ∃ av : Bs, ∃ aw : Bool, e = .returned (.tuple ⟨[.string (mkS av), .bool aw]⟩) ∧
 R (.tuple ⟨[.string (mkS av), .bool aw]⟩) w23) ∧ (decide (x16 = 11) = false →
 (decide (x16 = 12) = true →
 ∃ f_2 : List (Addr × Value), Kept w10 f_2 ∧
 ∃ ax : Bs, (⟨w.heap.size, 1, none⟩, .string (mkS ax)) ∈ f_2 ∧
 ∃ (cw : Ptr) (dt du : Nat), (⟨w.heap.size, 6, none⟩, .slice cw dt du) ∈ f_2 ∧
 Calls prog 23 ⟨[.string (mkS ax), .pointer (some (⟨w1.heap.size, 0, none⟩))]⟩ w10.drew fun e w24 => ∃ ay : Bs, e = .returned (.string (mkS ay)) ∧
 Kept w24 f_2 ∧ [123, 34, 36, 114, 101, 102, 34, 58].length + ay.length ≤ 9223372036854775807 ∧
 ([123, 34, 36, 114, 101, 102, 34, 58] ++ ay).length + [44, 34, 36, 105, 100, 34, 58, 123, 34, 36, 111, 105, 100, 34, 58].length ≤ 9223372036854775807 ∧
 Calls prog 33 ⟨[.slice cw dt du]⟩ w24 fun e w25 => ∃ az : Bs, e = .returned (.string (mkS az)) ∧
 (([123, 34, 36, 114, 101, 102, 34, 58] ++ ay) ++ [44, 34, 36, 105, 100, 34, 58, 123, 34, 36, 111, 105, 100, 34, 58]).length + az.length ≤ 9223372036854775807 ∧
 ((([123, 34, 36, 114, 101, 102, 34, 58] ++ ay) ++ [44, 34, 36, 105, 100, 34, 58, 123, 34, 36, 111, 105, 100, 34, 58]) ++ az).length + [125, 125].length ≤ 9223372036854775807 ∧
 Calls prog 25 ⟨[.string (mkS [36, 100, 98, 80, 111, 105, 110, 116, 101, 114]), .string (mkS (((([123, 34, 36, 114, 101, 102, 34, 58] ++ ay) ++ [44, 34, 36, 105, 100, 34, 58, 123, 34, 36, 111, 105, 100, 34, 58]) ++ az) ++ [125, 125]))]⟩ w25 fun e w26 => ∃ ba : Bs, ∃ bb : Bool, e = .returned (.tuple ⟨[.string (mkS ba), .bool bb]⟩) ∧
 R (.tuple ⟨[.string (mkS ba), .bool bb]⟩) w26) ∧ (decide (x16 = 12) = false →
 (decide (x16 = 13) = true →
 ∃ bc : Bs, w10.cell? ⟨w.heap.size, 1, none⟩ = some (.string (mkS bc)) ∧
 Calls prog 23 ⟨[.string (mkS bc), .pointer (some (⟨w1.heap.size, 0, none⟩))]⟩ w10 fun e w27 => ∃ bd : Bs, e = .returned (.string (mkS bd)) ∧
 Calls prog 25 ⟨[.string (mkS [36, 99, 111, 100, 101]), .string (mkS bd)]⟩ w27 fun e w28 => ∃ be : Bs, ∃ bf : Bool, e = .returned (.tuple ⟨[.string (mkS be), .bool bf]⟩) ∧
 R (.tuple ⟨[.string (mkS be), .bool bf]⟩) w28) ∧ (decide (x16 = 13) = false →
 (decide (x16 = 14) = true →
 ∃ bg : Bs, w10.cell? ⟨w.heap.size, 1, none⟩ = some (.string (mkS bg)) ∧
 Calls prog 23 ⟨[.string (mkS bg), .pointer (some (⟨w1.heap.size, 0, none⟩))]⟩ w10 fun e w29 => ∃ bh : Bs, e = .returned (.string (mkS bh)) ∧
 Calls prog 25 ⟨[.string (mkS [36, 115, 121, 109, 98, 111, 108]), .string (mkS bh)]⟩ w29 fun e w30 => ∃ bi : Bs, ∃ bj : Bool, e = .returned (.tuple ⟨[.string (mkS bi), .bool bj]⟩) ∧
 R (.tuple ⟨[.string (mkS bi), .bool bj]⟩) w30) ∧ (decide (x16 = 14) = false →
 (decide (x16 = 15) = true →
 ∃ (cx : Ptr) (dv dw : Nat), w10.cell? ⟨w.heap.size, 7, none⟩ = some (.slice cx dv dw) ∧
 ∃ bk : Bool, w10.cell? ⟨w1.heap.size, 0, none⟩ = some (.bool bk) ∧
 Calls prog 30 ⟨[.agg ⟨[.int .i64 3, .string (mkS []), .string (mkS []), .int .i64 0, .int .u64 0, .int .u64 0, .slice none 0 0, .slice cx dv dw]⟩, .bool di, .bool bk]⟩ w10 fun e w31 => ∃ bl : Bs, ∃ bm : Bool, e = .returned (.tuple ⟨[.string (mkS bl), .bool bm]⟩) ∧
 ∃ bn : Bs, w31.cell? ⟨w.heap.size, 1, none⟩ = some (.string (mkS bn)) ∧
 Calls prog 23 ⟨[.string (mkS bn), .pointer (some (⟨w1.heap.size, 0, none⟩))]⟩ w31 fun e w32 => ∃ bo : Bs, e = .returned (.string (mkS bo)) ∧
 [123, 34, 36, 99, 111, 100, 101, 34, 58].length + bo.length ≤ 9223372036854775807 ∧
 ([123, 34, 36, 99, 111, 100, 101, 34, 58] ++ bo).length + [44, 34, 36, 115, 99, 111, 112, 101, 34, 58].length ≤ 9223372036854775807 ∧
 (([123, 34, 36, 99, 111, 100, 101, 34, 58] ++ bo) ++ [44, 34, 36, 115, 99, 111, 112, 101, 34, 58]).length + bl.length ≤ 9223372036854775807 ∧
 ((([123, 34, 36, 99, 111, 100, 101, 34, 58] ++ bo) ++ [44, 34, 36, 115, 99, 111, 112, 101, 34, 58]) ++ bl).length + [125].length ≤ 9223372036854775807 ∧
 R (.tuple ⟨[.string (mkS (((([123, 34, 36, 99, 111, 100, 101, 34, 58] ++ bo) ++ [44, 34, 36, 115, 99, 111, 112, 101, 34, 58]) ++ bl) ++ [125])), .bool bm]⟩) w32) ∧ (decide (x16 = 15) = false →
 (decide (x16 = 16) = true →
 (di = true →
 ∃ bp : Int, w10.cell? ⟨w.heap.size, 3, none⟩ = some (.int .i64 bp) ∧
 Calls prog 34 ⟨[.int .i64 bp, .int .i64 10]⟩ w10 fun e w33 => ∃ bq : Bs, e = .returned (.string (mkS bq)) ∧
 [34].length + bq.length ≤ 9223372036854775807 ∧
 ([34] ++ bq).length + [34].length ≤ 9223372036854775807 ∧
 Calls prog 25 ⟨[.string (mkS [36, 110, 117, 109, 98, 101, 114, 73, 110, 116]), .string (mkS (([34] ++ bq) ++ [34]))]⟩ w33 fun e w34 => ∃ br : Bs, ∃ bs : Bool, e = .returned (.tuple ⟨[.string (mkS br), .bool bs]⟩) ∧
 R (.tuple ⟨[.string (mkS br), .bool bs]⟩) w34) ∧ (di = false →
 ∃ bt : Int, w10.cell? ⟨w.heap.size, 3, none⟩ = some (.int .i64 bt) ∧
 Calls prog 34 ⟨[.int .i64 bt, .int .i64 10]⟩ w10 fun e w35 => ∃ bu : Bs, e = .returned (.string (mkS bu)) ∧
 R (.tuple ⟨[.string (mkS bu), .bool true]⟩) w35)) ∧ (decide (x16 = 16) = false →
 (decide (x16 = 17) = true →
 ∃ f_3 : List (Addr × Value), Kept w10 f_3 ∧
 ∃ bv : Int, (⟨w.heap.size, 4, none⟩, .int .u64 bv) ∈ f_3 ∧
 (0 : Int) ≤ 32 ∧ ∃ bw : Int, Int.fdiv bv (2 ^ 32) = bw ∧
 ∃ bx : Int, (⟨w.heap.size, 4, none⟩, .int .u64 bx) ∈ f_3 ∧
 ∃ bz : Int, bits .and .u64 bx 4294967295 = bz ∧
 Calls prog 36 ⟨[.int .u64 bw, .int .i64 10]⟩ w10.drew fun e w36 => ∃ ca : Bs, e = .returned (.string (mkS ca)) ∧
 Kept w36 f_3 ∧ [123, 34, 116, 34, 58].length + ca.length ≤ 9223372036854775807 ∧
 ([123, 34, 116, 34, 58] ++ ca).length + [44, 34, 105, 34, 58].length ≤ 9223372036854775807 ∧
 Calls prog 36 ⟨[.int .u64 bz, .int .i64 10]⟩ w36 fun e w37 => ∃ cb : Bs, e = .returned (.string (mkS cb)) ∧
 (([123, 34, 116, 34, 58] ++ ca) ++ [44, 34, 105, 34, 58]).length + cb.length ≤ 9223372036854775807 ∧
 ((([123, 34, 116, 34, 58] ++ ca) ++ [44, 34, 105, 34, 58]) ++ cb).length + [125].length ≤ 9223372036854775807 ∧
 Calls prog 25 ⟨[.string (mkS [36, 116, 105, 109, 101, 115, 116, 97, 109, 112]), .string (mkS (((([123, 34, 116, 34, 58] ++ ca) ++ [44, 34, 105, 34, 58]) ++ cb) ++ [125]))]⟩ w37 fun e w38 => ∃ cc : Bs, ∃ cd : Bool, e = .returned (.tuple ⟨[.string (mkS cc), .bool cd]⟩) ∧
 R (.tuple ⟨[.string (mkS cc), .bool cd]⟩) w38) ∧ (decide (x16 = 17) = false →
 (decide (x16 = 18) = true →
 (di = true →
 ∃ ce : Int, w10.cell? ⟨w.heap.size, 3, none⟩ = some (.int .i64 ce) ∧
 Calls prog 34 ⟨[.int .i64 ce, .int .i64 10]⟩ w10 fun e w39 => ∃ cf : Bs, e = .returned (.string (mkS cf)) ∧
 [34].length + cf.length ≤ 9223372036854775807 ∧
 ([34] ++ cf).length + [34].length ≤ 9223372036854775807 ∧
 Calls prog 25 ⟨[.string (mkS [36, 110, 117, 109, 98, 101, 114, 76, 111, 110, 103]), .string (mkS (([34] ++ cf) ++ [34]))]⟩ w39 fun e w40 => ∃ cg : Bs, ∃ ch : Bool, e = .returned (.tuple ⟨[.string (mkS cg), .bool ch]⟩) ∧
 R (.tuple ⟨[.string (mkS cg), .bool ch]⟩) w40) ∧ (di = false →
 ∃ ci : Int, w10.cell? ⟨w.heap.size, 3, none⟩ = some (.int .i64 ci) ∧
 Calls prog 34 ⟨[.int .i64 ci, .int .i64 10]⟩ w10 fun e w41 => ∃ cj : Bs, e = .returned (.string (mkS cj)) ∧
 R (.tuple ⟨[.string (mkS cj), .bool true]⟩) w41)) ∧ (decide (x16 = 18) = false →
 (decide (x16 = 19) = true →
 ∃ ck : Int, w10.cell? ⟨w.heap.size, 5, none⟩ = some (.int .u64 ck) ∧
 ∃ cl : Int, w10.cell? ⟨w.heap.size, 4, none⟩ = some (.int .u64 cl) ∧
 Calls prog 38 ⟨[.int .u64 ck, .int .u64 cl]⟩ w10 fun e w42 => ∃ cm : List Value, e = .returned (.agg ⟨cm⟩) ∧
 Calls prog 37 ⟨[.agg ⟨cm⟩]⟩ w42 fun e w43 => ∃ cn : Bs, e = .returned (.string (mkS cn)) ∧
 [34].length + cn.length ≤ 9223372036854775807 ∧
 ([34] ++ cn).length + [34].length ≤ 9223372036854775807 ∧
 Calls prog 25 ⟨[.string (mkS [36, 110, 117, 109, 98, 101, 114, 68, 101, 99, 105, 109, 97, 108]), .string (mkS (([34] ++ cn) ++ [34]))]⟩ w43 fun e w44 => ∃ co : Bs, ∃ cp : Bool, e = .returned (.tuple ⟨[.string (mkS co), .bool cp]⟩) ∧
 R (.tuple ⟨[.string (mkS co), .bool cp]⟩) w44) ∧ (decide (x16 = 19) = false →
 (decide (x16 = 255) = true →
 Calls prog 25 ⟨[.string (mkS [36, 109, 105, 110, 75, 101, 121]), .string (mkS [49])]⟩ w10 fun e w45 => ∃ cq : Bs, ∃ cr : Bool, e = .returned (.tuple ⟨[.string (mkS cq), .bool cr]⟩) ∧
 R (.tuple ⟨[.string (mkS cq), .bool cr]⟩) w45) ∧ (decide (x16 = 255) = false →
 (decide (x16 = 127) = true →
 Calls prog 25 ⟨[.string (mkS [36, 109, 97, 120, 75, 101, 121]), .string (mkS [49])]⟩ w10 fun e w46 => ∃ cs : Bs, ∃ ct : Bool, e = .returned (.tuple ⟨[.string (mkS cs), .bool ct]⟩) ∧
 R (.tuple ⟨[.string (mkS cs), .bool ct]⟩) w46) ∧ (decide (x16 = 127) = false →
 R (.tuple ⟨[.string (mkS []), .bool false]⟩) w10))))))))))))))))))) → ab x47 w10) →
 (decide (x16 = 3) = true →
 ab (decide (x16 = 3)) w2) ∧ (decide (x16 = 3) = false →
 ab (decide (x16 = 4)) w2)))
def an9 : Ann :=
 .k .z
 (.k .z
 (.k .z
 (.k (.k (.t [.q, .s [.int .i64]])
 (.block (.k .z
 (.cond 1 2 (.k (.t [.q, .s [.int .u64], .s [.float]])
 (.k (.t [.q, .s [.str]])
 (.k (.cut [(32, .bool)] [9, 11] (.t [.q, .q, .gs .n 5 6, .on 6 (.s [.bool]) (.q), .q, .q, .on 6 (.gs .n 7 8) (.q), .on 8 (.s [.bool]) (.q)])
 (.cond 3 4 (.k (.t [.q, .q, .q, .q, .s [.str, .bool]])
 .l) .l))
 .zl))) (.k .z
 (.cond 9 10 (.k (.t [.q, .q, .s [.str], .s [.str]])
 .l) (.cut [(47, .bool)] [1, 3, 5, 8, 9, 16] (.k .z
 (.cond 53 54 .l .z))
 (.cond 11 12 (.k (.t [.s [.int .i64, .str, .str, .int .i64, .int .u64, .int .u64, .slice, .slice], .q, .s [.bool], .s [.str, .bool]])
 .l) (.k .z
 (.cond 13 14 (.k (.reg (.held [9, 12] (.take 0 (.q) (.take 1 (.q) (.take 2 (.s [.slice]) (.take 6 (.q) (.take 7 (.s [.int .i64]) (.take 8 (.q) (.run 3 (.s [.str]) (.take 4 (.q) (.take 5 (.q) (.run 9 (.s [.str]) (.take 10 (.q) (.take 11 (.q) (.run 12 (.s [.str, .bool]) (.take 13 (.q) (.take 14 (.q) (.take 15 (.q) (.take 16 (.q) .done)))) .done))) .done))) .done)))))))))
 .l) (.k .z
 (.cond 15 16 (.k (.t [.q, .s [.str, .bool]])
 .l) (.k .z
 (.cond 17 18 (.k (.t [.q, .q, .s [.slice], .s [.str], .s [.str, .bool]])
 .l) (.k .z
 (.cond 19 20 (.k (.k (.t [.q, .s [.int .i64]])
 (.cond 21 22 .zl .l))
 .zl) (.k .z
 (.cond 23 24 (.k (.t [.q, .q, .s [.int .i64], .s [.str], .q, .q, .s [.str, .bool]])
 .l) (.k .z
 (.cond 25 26 .zl (.k .z
 (.cond 27 28 (.k (.reg (.held [10, 11, 14] (.take 0 (.q) (.take 1 (.q) (.take 2 (.q) (.take 3 (.s [.str]) (.take 7 (.q) (.take 8 (.q) (.take 9 (.s [.str]) (.run 4 (.s [.str]) (.take 5 (.q) (.take 6 (.q) (.run 10 (.s [.str]) (.run 11 (.s [.str]) (.take 12 (.q) (.take 13 (.q) (.run 14 (.s [.str, .bool]) (.take 15 (.q) (.take 16 (.q) (.take 17 (.q) (.take 18 (.q) .done)))) .done))) .done) .done))) .done))))))))))
 .l) (.k .z
 (.cond 29 30 (.k (.reg (.held [9, 12] (.take 0 (.q) (.take 1 (.q) (.take 2 (.q) (.take 3 (.s [.str]) (.take 7 (.q) (.take 8 (.s [.slice]) (.run 4 (.s [.str]) (.take 5 (.q) (.take 6 (.q) (.run 9 (.s [.str]) (.take 10 (.q) (.take 11 (.q) (.run 12 (.s [.str, .bool]) (.take 13 (.q) (.take 14 (.q) (.take 15 (.q) (.take 16 (.q) .done)))) .done))) .done))) .done)))))))))
 .l) (.k .z
 (.cond 31 32 (.k (.t [.q, .q, .q, .s [.str], .s [.str], .s [.str, .bool]])
 .l) (.k .z
 (.cond 33 34 (.k (.t [.q, .q, .q, .s [.str], .s [.str], .s [.str, .bool]])
 .l) (.k .z
 (.cond 35 36 (.k (.t [.q, .s [.slice], .q, .q, .s [.bool], .s [.str, .bool]])
 (.k (.t [.q, .q, .s [.str], .s [.str]])
 .l)) (.k .z
 (.cond 37 38 (.k (.k .z
 (.cond 39 40 (.k (.t [.q, .q, .s [.int .i64], .s [.str], .q, .q, .s [.str, .bool]])
 .l) .l))
 (.k (.t [.q, .s [.int .i64], .s [.str]])
 .l)) (.k .z
 (.cond 41 42 (.k (.reg (.held [10, 13] (.take 0 (.q) (.take 1 (.q) (.take 2 (.s [.int .u64]) (.take 3 (.q) (.take 7 (.q) (.take 8 (.s [.int .u64]) (.take 9 (.q) (.run 4 (.s [.str]) (.take 5 (.q) (.take 6 (.q) (.run 10 (.s [.str]) (.take 11 (.q) (.take 12 (.q) (.run 13 (.s [.str, .bool]) (.take 14 (.q) (.take 15 (.q) (.take 16 (.q) (.take 17 (.q) .done)))) .done))) .done))) .done))))))))))
 .l) (.k .z
 (.cond 43 44 (.k (.k .z
 (.cond 45 46 (.k (.t [.q, .q, .s [.int .i64], .s [.str], .q, .q, .s [.str, .bool]])
 .l) .l))
 (.k (.t [.q, .s [.int .i64], .s [.str]])
 .l)) (.k .z
 (.cond 47 48 (.k (.t [.q, .q, .s [.int .u64], .q, .s [.int .u64], .s [.agg], .s [.str], .q, .q, .s [.str, .bool]])
 .l) (.k .z
 (.cond 49 50 (.k (.t [.q, .s [.str, .bool]])
 .l) (.k .z
 (.cond 51 52 (.k (.t [.q, .s [.str, .bool]])
 .l) .l))))))))))))))))))))))))))))))))))))))))))
 .zl)))
theorem c9 (aa : Int) (ab : Bs) (ac : Bs) (xN : Int) (ad : Int) (ae : Int) (xB : Ptr) (af ag : Nat) (ah : Ptr) (ai aj : Nat) (ak : Bool) (al : Bool) (w : World) (R : RR) (hvc : VC9 aa ab ac xN ad ae xB af ag ah ai aj ak al w R) : CR 9 [.agg ⟨[.int .i64 aa, .string (mkS ab), .string (mkS ac), .int .i64 xN, .int .u64 ad, .int .u64 ae, .slice xB af ag, .slice ah ai aj]⟩, .bool ak, .bool al] w R :=
 vcc (fn := f9) (ann := an9) hvc (by kernel_rfl) (by kernel_rfl)
end Go.Proofs.Tryz
