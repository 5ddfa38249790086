/- Parts of a proof, joined: Dq, W10, W11. -/
import Derived.Test.YtfofafjemgfobaaGreatDoorX29
import Derived.Test.YtfofafjemgfobaaGreatDoorX23
set_option linter.unusedVariables false
namespace Go.Proofs.Tryz
open Go.Vc Go.RowKit
def Shape (N : Nat) (e : Int) (n μ K : Nat) : Prop :=
  (n = 1 ∧ (0 < e ∨ e < -6) ∧ μ = 100 ∧ K = 1) ∨ (2 ≤ n ∧ (0 < e ∨ e + n - 1 < -6) ∧ μ = n - 1 ∧ K = n) ∨ (e = 0 ∧ μ = 100 ∧ K = n ∧ N ≠ 0) ∨ (e < 0 ∧ -6 ≤ e + n - 1 ∧ (μ : Int) = -e ∧ K = max n (μ + 1))
theorem shape_of {N : Nat} {e : Int} {n : Nat} (hn : n = (decF N).length) (h0 : ¬ (N = 0 ∧ e = 0)) : Shape N e n (pointD n e) (countD n e) := by
  have h1 := decF_len_pos N
  rw [← hn] at h1
  unfold Shape pointD countD
  by_cases hs : 0 < e ∨ e + (n : Int) - 1 < -6
  · have hsb : sciD n e = true := by unfold sciD; simpa using hs
    rw [if_pos hsb, if_pos hsb]
    by_cases h11 : n = 1
    · left; rw [if_pos h11]; exact ⟨h11, by omega, rfl, h11⟩
    · right; left; rw [if_neg h11]; exact ⟨by omega, hs, rfl, rfl⟩
  · have hsb : sciD n e = false := by unfold sciD; simp only [Bool.or_eq_false_iff, decide_eq_false_iff_not]; omega
    rw [hsb]
    simp only [Bool.false_eq_true, if_false]
    by_cases he : e = 0
    · right; right; left; rw [if_pos he, if_pos he]; exact ⟨he, rfl, rfl, fun h => h0 ⟨h, he⟩⟩
    · right; right; right; rw [if_neg he, if_neg he]; exact ⟨by omega, by omega, by omega, rfl⟩
theorem len34 {N : Nat} (h : N < 10 ^ 34) : (decF N).length ≤ 34 := (decF_len N 34 (by decide)).2 h
theorem digits_pos {N n : Nat} (hn : n = (decF N).length) (k : Nat) : 0 < N / 10 ^ k ↔ N ≠ 0 ∧ k < n := by
  have h1 := decF_len_pos N
  rw [Nat.div_pos_iff]
  constructor
  · rintro ⟨_, h⟩
    have hp : 0 < 10 ^ k := Nat.pow_pos (by decide)
    refine ⟨by omega, ?_⟩
    rcases Nat.lt_or_ge k n with h' | h'
    · exact h'
    · exfalso
      have := decF_lt N
      rw [← hn] at this
      have := Nat.pow_le_pow_right (n := 10) (by decide) h'
      omega
  · rintro ⟨h0, hk⟩
    refine ⟨Nat.pow_pos (by decide), ?_⟩
    rcases Nat.eq_zero_or_pos k with rfl | hk0
    · simp; omega
    · exact decF_ge N k hk0 (by omega)
theorem digits_lt {N n : Nat} (hn : n = (decF N).length) (k : Nat) : N / 10 ^ k < 10 ↔ n ≤ k + 1 := by
  rw [Nat.div_lt_iff_lt_mul (Nat.pow_pos (by decide)), Nat.mul_comm, ← Nat.pow_succ, hn]
  exact (decF_len N (k + 1) (by omega)).symm
theorem c10_val (N k : Nat) : ((c10 N k).toNat : Int) = ((48 + N / 10 ^ k % 10 : Nat) : Int) := by
  unfold c10; exact u8_toNat_ofNat _ (by omega)
theorem lead_ne {N n k : Nat} (hn : n = (decF N).length) (h0 : N ≠ 0) (hk : k + 1 = n) : N / 10 ^ k % 10 ≠ 0 := by
  have h1 := (digits_pos hn k).2 ⟨h0, by omega⟩
  have h2 := (digits_lt hn k).2 (by omega)
  omega
def iD (μ k : Nat) : Int := if k ≤ μ then 48 - (k : Int) else 47 - (k : Int)
def dotD (e : Int) (μ k : Nat) : Int := if k ≤ μ then 48 + e else 48
def expD (e : Int) (μ k : Nat) : Int := if k ≤ μ then e else e + μ
section
variable {N : Nat} {e : Int} {n μ K k : Nat}
theorem K_le (hs : Shape N e n μ K) (hn : n = (decF N).length) (h34 : n ≤ 34) : K ≤ 41 ∧ 1 ≤ K ∧ 1 ≤ μ := by
  have h1 := decF_len_pos N
  rw [← hn] at h1
  rcases hs with h | h | h | h <;> omega
theorem cond_point (hs : Shape N e n μ K) (hn : n = (decF N).length) (h34 : n ≤ 34) (hk : k < K) : (iD μ k < 48 ∧ (dotD e μ k = iD μ k ∨ ((0 < N / 10 ^ k ∧ N / 10 ^ k < 10) ∧ (dotD e μ k < iD μ k - 6 ∨ 0 < expD e μ k)))) ↔ k = μ := by
  have h1 := decF_len_pos N
  rw [← hn] at h1
  rw [digits_pos hn k, digits_lt hn k]
  unfold iD dotD expD
  by_cases hkm : k ≤ μ
  · simp only [if_pos hkm]
    rcases hs with h | h | h | h
    · constructor <;> intro h' <;> omega
    · have hN0 : N ≠ 0 := by rintro rfl; simp [decF] at hn; omega
      constructor <;> intro h' <;> omega
    · constructor <;> intro h' <;> omega
    · constructor <;> intro h' <;> omega
  · simp only [if_neg hkm]
    rcases hs with h | h | h | h <;> constructor <;> intro h' <;> omega
theorem cond_one (hs : Shape N e n μ K) (hn : n = (decF N).length) (h34 : n ≤ 34) (hk : k < K) : (N / 10 ^ (k + 1) = 0 ∧ iD μ (k + 1) = 47 ∧ (dotD e μ (k + 1) < 42 ∨ 0 < expD e μ (k + 1))) ↔ (K = 1 ∧ (0 < e ∨ e < -6)) := by
  have h1 := decF_len_pos N
  rw [← hn] at h1
  have hz : N / 10 ^ (k + 1) = 0 ↔ ¬ (N ≠ 0 ∧ k + 1 < n) := by
    rw [← digits_pos hn (k + 1)]
    exact ⟨fun h => by rw [h]; exact Nat.lt_irrefl 0, fun h => Nat.eq_zero_of_not_pos h⟩
  rw [hz]
  have hNn : N = 0 → n = 1 := by rintro rfl; rw [hn]; rfl
  unfold iD dotD expD
  by_cases hkm : k + 1 ≤ μ
  · simp only [if_pos hkm]
    rcases hs with h | h | h | h
    · constructor <;> intro h' <;> omega
    · have hN0 : N ≠ 0 := by rintro rfl; simp [decF] at hn; omega
      constructor <;> intro h' <;> omega
    · constructor <;> intro h' <;> omega
    · by_cases hN0 : N = 0
      · have := hNn hN0
        constructor <;> intro h' <;> omega
      · constructor <;> intro h' <;> omega
  · simp only [if_neg hkm]
    rcases hs with h | h | h | h <;> constructor <;> intro h' <;> omega
theorem cond_end (hs : Shape N e n μ K) (hn : n = (decF N).length) (h34 : n ≤ 34) (hk : k < K) (hone : ¬ (K = 1 ∧ (0 < e ∨ e < -6))) : (iD μ (k + 1) < dotD e μ (k + 1) ∧ N / 10 ^ (k + 1) = 0) ↔ k + 1 = K := by
  have h1 := decF_len_pos N
  rw [← hn] at h1
  have hz : N / 10 ^ (k + 1) = 0 ↔ ¬ (N ≠ 0 ∧ k + 1 < n) := by
    rw [← digits_pos hn (k + 1)]
    exact ⟨fun h => by rw [h]; exact Nat.lt_irrefl 0, fun h => Nat.eq_zero_of_not_pos h⟩
  rw [hz]
  have hNn : N = 0 → n = 1 := by rintro rfl; rw [hn]; rfl
  unfold iD dotD
  by_cases hkm : k + 1 ≤ μ
  · simp only [if_pos hkm]
    rcases hs with h | h | h | h
    · constructor <;> intro h' <;> omega
    · constructor <;> intro h' <;> omega
    · constructor <;> intro h' <;> omega
    · constructor <;> intro h' <;> omega
  · simp only [if_neg hkm]
    rcases hs with h | h | h | h
    · constructor <;> intro h' <;> omega
    · constructor <;> intro h' <;> omega
    · constructor <;> intro h' <;> omega
    · by_cases hN0 : N = 0
      · have := hNn hN0
        constructor <;> intro h' <;> omega
      · constructor <;> intro h' <;> omega
theorem end_last (hs : Shape N e n μ K) (hn : n = (decF N).length) (h34 : n ≤ 34) (hone : ¬ (K = 1 ∧ (0 < e ∨ e < -6))) (he : k + 1 = K) : k = μ ∨ N / 10 ^ k % 10 ≠ 0 := by
  have h1 := decF_len_pos N
  rw [← hn] at h1
  have hNn : N = 0 → n = 1 := by rintro rfl; rw [hn]; rfl
  by_cases hkm : k = μ
  · exact .inl hkm
  · right
    rcases hs with h | h | h | h
    · omega
    · omega
    · exact lead_ne hn h.2.2.2 (by omega)
    · by_cases hN0 : N = 0
      · have := hNn hN0; omega
      · exact lead_ne hn hN0 (by omega)
end
theorem iD_len (N μ k : Nat) : iD μ k = 48 - ((tailD N μ k).length : Int) := by
  rw [tailD_len]; unfold iD; split <;> omega
theorem tail_next (N μ k : Nat) : tailD N μ (k + 1) = if k = μ then c10 N k :: 46 :: tailD N μ k else c10 N k :: tailD N μ k := by
  split
  · rename_i h; subst h; exact tailD_point N k
  · rename_i h
    rcases Nat.lt_or_ge k μ with h' | h'
    · exact tailD_plain N μ k h'
    · exact tailD_past N μ k (by omega)
theorem nine (N d9 d1 : Nat) (h : d1 ≤ 9) : N / 10 ^ (9 * d9 + d1) = N / 10 ^ (9 * d9) % 1000000000 / 10 ^ d1 + 10 ^ (9 - d1) * (N / 10 ^ (9 * d9) / 1000000000) := by
  rw [Nat.pow_add, ← Nat.div_div_eq_div_mul]
  generalize N / 10 ^ (9 * d9) = A
  have hp : 10 ^ 9 = 10 ^ d1 * 10 ^ (9 - d1) := by rw [← Nat.pow_add]; congr 1; omega
  have e : A = A % 1000000000 + 10 ^ d1 * (10 ^ (9 - d1) * (A / 1000000000)) := by
    rw [← Nat.mul_assoc, ← hp]
    have := Nat.div_add_mod A 1000000000
    omega
  conv => lhs; rw [e]
  rw [Nat.add_mul_div_left _ _ (Nat.pow_pos (by decide))]
theorem nine_next (N d9 : Nat) : N / 10 ^ (9 * (d9 + 1)) = N / 10 ^ (9 * d9) / 1000000000 := by
  rw [show 9 * (d9 + 1) = 9 * d9 + 9 by omega, Nat.pow_add, ← Nat.div_div_eq_div_mul]
theorem nine_facts (N d9 d1 : Nat) (h : d1 < 9) (r H : Nat) (hr : r = N / 10 ^ (9 * d9) % 1000000000 / 10 ^ d1) (hH : H = N / 10 ^ (9 * d9) / 1000000000) :
    r % 10 = N / 10 ^ (9 * d9 + d1) % 10 ∧ ((H = 0 ∧ 0 < r ∧ r < 10) ↔ (0 < N / 10 ^ (9 * d9 + d1) ∧ N / 10 ^ (9 * d9 + d1) < 10)) ∧ ((H = 0 ∧ r / 10 = 0) ↔ N / 10 ^ (9 * d9 + d1 + 1) = 0) ∧ r / 10 = N / 10 ^ (9 * d9) % 1000000000 / 10 ^ (d1 + 1) := by
  have h1 := nine N d9 d1 (by omega)
  have h2 := nine N d9 (d1 + 1) (by omega)
  rw [← hr, ← hH] at h1
  rw [← hH] at h2
  have h3 : r / 10 = N / 10 ^ (9 * d9) % 1000000000 / 10 ^ (d1 + 1) := by rw [hr, Nat.div_div_eq_div_mul, ← Nat.pow_succ]
  rw [← h3] at h2
  obtain ⟨p, hp⟩ : ∃ p, 9 - d1 = p + 1 := ⟨8 - d1, by omega⟩
  have hp0 : 0 < 10 ^ p := Nat.pow_pos (by decide)
  rw [hp, Nat.pow_succ] at h1
  have hq : 9 - (d1 + 1) = p := by omega
  rw [hq] at h2
  have e1 : 10 ^ p * 10 * H = 10 * (10 ^ p * H) := by rw [Nat.mul_comm (10 ^ p) 10, Nat.mul_assoc]
  rw [e1] at h1
  have hH0 : H = 0 ↔ 10 ^ p * H = 0 := by
    constructor
    · intro h; rw [h]; rfl
    · intro h; rcases Nat.mul_eq_zero.1 h with h | h <;> omega
  rw [show 9 * d9 + d1 + 1 = 9 * d9 + (d1 + 1) by omega]
  generalize 10 ^ p * H = Y at *
  refine ⟨by omega, ?_, ?_, h3⟩
  · rw [hH0]; constructor <;> intro h' <;> omega
  · rw [hH0]; constructor <;> intro h' <;> omega
end Go.Proofs.Tryz
set_option linter.unusedVariables false
namespace Go.Proofs.Tryz
open Go.Vc Go.RowKit Go.Sort
theorem divmod_nat (a h0 c0 l0 : Nat) (ha : a < 4294967296) (h1 : h0 < 4294967296) (h2 : c0 < 4294967296) (h3 : l0 < 4294967296) :
    (((a * 4294967296 + h0) * 18446744073709551616 + (c0 * 4294967296 + l0)) / 1000000000 =
      (a / 1000000000 * 4294967296 + (a % 1000000000 * 4294967296 + h0) / 1000000000) * 18446744073709551616 + (((a % 1000000000 * 4294967296 + h0) % 1000000000 * 4294967296 + c0) / 1000000000 * 4294967296 + (((a % 1000000000 * 4294967296 + h0) % 1000000000 * 4294967296 + c0) % 1000000000 * 4294967296 + l0) / 1000000000)) ∧
    ((a * 4294967296 + h0) * 18446744073709551616 + (c0 * 4294967296 + l0)) % 1000000000 = (((a % 1000000000 * 4294967296 + h0) % 1000000000 * 4294967296 + c0) % 1000000000 * 4294967296 + l0) % 1000000000 := by
  omega
theorem num_lit (h l : Nat) : num h l = h * 18446744073709551616 + l := by simp only [num, B64]
theorem ret166 (h l : Nat) (hh : h < 18446744073709551616) (hl : l < 18446744073709551616) (w : World) :
    Ret 166 [.int .u64 (h : Int), .int .u64 (l : Int), .int .u32 1000000000] w (.tuple ⟨[.int .u64 ((num h l / 1000000000 / B64 : Nat) : Int), .int .u64 ((num h l / 1000000000 % B64 : Nat) : Int), .int .u32 ((num h l % 1000000000 : Nat) : Int)]⟩) := by
  refine Ret.of (c166 _ _ _ w _ ?_)
  unfold VC166
  have hd := divmod_nat (h / 4294967296) (h % 4294967296) (l / 4294967296) (l % 4294967296) (by omega) (by omega) (by omega) (by omega)
  have eh : h / 4294967296 * 4294967296 + h % 4294967296 = h := Nat.div_add_mod' h _
  have el : l / 4294967296 * 4294967296 + l % 4294967296 = l := Nat.div_add_mod' l _
  rw [eh, el] at hd
  have hB : B64 = 18446744073709551616 := rfl
  rw [← num_lit h l] at hd
  obtain ⟨hd1, hd2⟩ := hd
  have q0 : h / 4294967296 < 4294967296 := by omega
  obtain ⟨a, ha⟩ : ∃ a, h / 4294967296 = a := ⟨_, rfl⟩
  obtain ⟨h0, hh0⟩ : ∃ a, h % 4294967296 = a := ⟨_, rfl⟩
  obtain ⟨c0, hc0⟩ : ∃ a, l / 4294967296 = a := ⟨_, rfl⟩
  obtain ⟨l0, hl0⟩ : ∃ a, l % 4294967296 = a := ⟨_, rfl⟩
  rw [ha, hh0, hc0, hl0] at hd1 hd2
  rw [ha] at q0
  have r0 : h0 < 4294967296 := by omega
  have r1 : c0 < 4294967296 := by omega
  have r2 : l0 < 4294967296 := by omega
  obtain ⟨b, hb⟩ : ∃ b, a % 1000000000 * 4294967296 + h0 = b := ⟨_, rfl⟩
  have hb1 : b < 4294967296000000000 := by omega
  rw [hb] at hd1 hd2
  obtain ⟨c, hc⟩ : ∃ c, b % 1000000000 * 4294967296 + c0 = c := ⟨_, rfl⟩
  have hc1 : c < 4294967296000000000 := by omega
  rw [hc] at hd1 hd2
  obtain ⟨d, hdd⟩ : ∃ d, c % 1000000000 * 4294967296 + l0 = d := ⟨_, rfl⟩
  have hd3 : d < 4294967296000000000 := by omega
  rw [hdd] at hd1 hd2
  have f1 : Int.fdiv (h : Int) (2 ^ 32) = (a : Int) := by rw [fdiv_nat]; rw [← ha]
  have f2 : Int.fdiv (l : Int) (2 ^ 32) = (c0 : Int) := by rw [fdiv_nat]; rw [← hc0]
  have m1 : bits .and .u64 (h : Int) 4294967295 = (h0 : Int) := by rw [mask32 h hh, hh0]
  have m2 : bits .and .u64 (l : Int) 4294967295 = (l0 : Int) := by rw [mask32 l hl, hl0]
  have td : ∀ x : Nat, x < 18446744073709551616 → IntKind.u64.wrap (Int.tdiv (x : Int) 1000000000) = ((x / 1000000000 : Nat) : Int) := by
    intro x hx
    rw [Int.tdiv_eq_ediv_of_nonneg (by omega), u64w (by omega) (by omega)]; omega
  have tm : ∀ x : Nat, Int.tmod (x : Int) 1000000000 = ((x % 1000000000 : Nat) : Int) := by
    intro x
    rw [Int.tmod_eq_emod_of_nonneg (by omega)]; omega
  have sh : ∀ x : Nat, x < 4294967296 → IntKind.u64.wrap ((x : Int) * 2 ^ 32) = ((x * 4294967296 : Nat) : Int) := by
    intro x hx
    rw [u64w (by omega) (by omega)]; omega
  have j1 : bits .or .u64 ((a / 1000000000 * 4294967296 : Nat) : Int) ((b / 1000000000 : Nat) : Int) = ((a / 1000000000 * 4294967296 + b / 1000000000 : Nat) : Int) := u64_join _ _ 32 (by omega) (by omega) (by omega) (by omega)
  have j2 : bits .or .u64 ((c / 1000000000 * 4294967296 : Nat) : Int) ((d / 1000000000 : Nat) : Int) = ((c / 1000000000 * 4294967296 + d / 1000000000 : Nat) : Int) := u64_join _ _ 32 (by omega) (by omega) (by omega) (by omega)
  refine ⟨1000000000, by decide, by decide, _, f1, by decide, _, td a (by omega), by decide, _, tm a, by decide, _, sh _ (by omega), _, m1, (b : Int), by rw [u64w (by omega) (by omega)]; omega, by decide, _, td b (by omega), by decide, _, tm b, by decide, _, sh _ (by omega), by decide, _, f2, (c : Int), by rw [u64w (by omega) (by omega)]; omega,
    by decide, _, td c (by omega), by decide, _, tm c, by decide, _, sh _ (by omega), _, m2, (d : Int), by rw [u64w (by omega) (by omega)]; omega, by decide, _, td d (by omega), by decide, _, tm d, by decide, _, sh _ (by omega), _, j1, by decide, _, sh _ (by omega), _, j2, ((d % 1000000000 : Nat) : Int), u32w (by omega) (by omega), ?_, Keeps.refl _⟩
  have e1 : num h l / 1000000000 / B64 = a / 1000000000 * 4294967296 + b / 1000000000 := by
    rw [hd1, hB]; omega
  have e2 : num h l / 1000000000 % B64 = c / 1000000000 * 4294967296 + d / 1000000000 := by
    rw [hd1, hB]; omega
  rw [e1, e2, hd2]
theorem ret167 (n : Int) (h0 : -9223372036854775808 ≤ n) (h1 : n ≤ 9223372036854775807) (w : World) (ht : Pow w) : Ret 167 [.int .i64 n] w (.string (mkS (decNum n))) := by
  refine (strconv_Itoa n h0 h1 w ht).mono ?_
  rintro e w' ⟨rfl, k, os, rfl⟩
  refine ⟨?_, keeps_grow w k os⟩
  rw [toArray_mkS, decNum_itoa]
theorem zeros234 : (zeros prog 234).getD #[] = ⟨List.replicate 48 (.int .u8 0)⟩ := by kernel_rfl
def TailL (cs : List Value) (T : List UInt8) : Prop := ∀ j b, T[j]? = some b → cs[48 - T.length + j]? = some (Value.int .u8 (b.toNat : Int))
theorem TailL.push {cs : List Value} {T : List UInt8} (h : TailL cs T) (hl : cs.length = 48) (hT : T.length < 48) (b : UInt8) : TailL (cs.set (47 - T.length) (.int .u8 (b.toNat : Int))) (b :: T) := by
  intro j x hj
  cases j with
  | zero =>
    have : b = x := by simpa using hj
    subst this
    rw [List.length_cons, Nat.add_zero, show 48 - (T.length + 1) = 47 - T.length by omega, List.getElem?_set_self (by omega)]
  | succ j =>
    rw [List.getElem?_cons_succ] at hj
    have hlt := (List.getElem?_eq_some_iff.1 hj).1
    rw [List.length_cons, List.getElem?_set_ne (by omega), show 48 - (T.length + 1) + (j + 1) = 48 - T.length + j by omega]
    exact h j x hj
theorem and31n (a : Nat) (h : a < 18446744073709551616) : bits .and .u64 (a : Int) 31 = ((a % 32 : Nat) : Int) := and31u a h
theorem and1n (a : Nat) (h : a < 18446744073709551616) : bits .and .u64 (a : Int) 1 = ((a % 2 : Nat) : Int) := u64_mask a 1 h (by decide)
set_option maxHeartbeats 4000000 in
theorem ret107 (h l : Nat) (hh : h < 18446744073709551616) (hl : l < 18446744073709551616) (hok : DecOK (h : Int) (l : Int)) (w : World) (T : Tabs w) :
    Ret 107 [.int .u64 (h : Int), .int .u64 (l : Int)] w (.string (mkS (decTextF (decOf h l)))) := by
  refine Ret.of (c107 _ _ w _ ?_)
  unfold VC107
  obtain ⟨s63, hs63⟩ : ∃ s, h / 2 ^ 63 = s := ⟨_, rfl⟩
  have hs2 : s63 = 0 ∨ s63 = 1 := by omega
  obtain ⟨k58, hk58⟩ : ∃ s, h / 2 ^ 58 % 32 = s := ⟨_, rfl⟩
  -- the sign
  obtain ⟨ps, hps, hps1⟩ : ∃ ps : Nat, ps = (if s63 = 0 then 1 else 0) ∧ ps ≤ 1 := ⟨_, rfl, by split <;> omega⟩
  intro Kx hK
  have f63 : Int.fdiv (h : Int) (2 ^ 63) = (s63 : Int) := by rw [fdiv_nat, hs63]
  have a63 : bits .and .u64 (s63 : Int) 1 = (s63 : Int) := by rw [and1n _ (by omega)]; congr 1; omega
  have key : Kx (ps : Int) w := by
    refine hK _ w ⟨by decide, _, fdiv_nat h 58, (k58 : Int), by rw [and31n _ (by omega), hk58], fun h31 => ?_, fun h31 => ⟨fun h30 => ?_, fun h30 => ?_⟩⟩
    · have h31 : k58 = 31 := by have := of_decide_eq_true h31; omega
      refine ⟨?_, Keeps.refl _⟩
      unfold decOf decTextF
      rw [hk58, h31]; rfl
    · have h30 : k58 = 30 := by have := of_decide_eq_true h30; omega
      refine ⟨⟨by omega, by simp; omega⟩, ?_, Keeps.refl _⟩
      unfold decOf decTextF
      rw [hk58, h30, hs63, Int.toNat_natCast, hps]
      rcases hs2 with rfl | rfl <;> rfl
    have h31 : k58 ≠ 31 := by have := of_decide_eq_false h31; omega
    have h30 : k58 ≠ 30 := by have := of_decide_eq_false h30; omega
    have hok2 : h / 2 ^ 61 % 4 ≠ 3 ∧ coefN (h : Int) (l : Int) < 10 ^ 34 := by
      rcases hok with (h1 | h1) | h1
      · rw [Int.toNat_natCast, hk58] at h1; exact absurd h1 h30
      · rw [Int.toNat_natCast, hk58] at h1; exact absurd h1 h31
      · rwa [Int.toNat_natCast] at h1
    obtain ⟨h61, hcoef⟩ := hok2
    have hcoef' : num (h % 2 ^ 49) l < 10 ^ 34 := by
      have : coefN (h : Int) (l : Int) = num (h % 2 ^ 49) l := by
        unfold coefN
        rw [Int.toNat_natCast, Int.toNat_natCast, num_lit]
      rwa [this] at hcoef
    -- what is to be written
    have hdec : decOf h l = ⟨0, decide (s63 = 1), decF (num (h % 2 ^ 49) l), ((h / 2 ^ 49 % 16384 : Nat) : Int) - 6176⟩ := by
      unfold decOf
      rw [hk58, if_neg h30, if_neg h31, if_neg h61, hs63]
    have hm49 : h % 2 ^ 49 < 18446744073709551616 := by omega
    have hlB : l < B64 := hl
    have hsp1 : num (h % 2 ^ 49) l / B64 = h % 2 ^ 49 := by
      unfold num
      rw [Nat.add_comm, Nat.add_mul_div_right _ _ B64_pos, Nat.div_eq_of_lt hlB, Nat.zero_add]
    have hsp2 : num (h % 2 ^ 49) l % B64 = l := by
      unfold num
      rw [Nat.add_comm, Nat.add_mul_mod_self_right, Nat.mod_eq_of_lt hlB]
    have hzero : num (h % 2 ^ 49) l = 0 ↔ h % 2 ^ 49 = 0 ∧ l = 0 := num_zero
    obtain ⟨E, hE⟩ : ∃ E : Nat, h / 2 ^ 49 % 16384 = E := ⟨_, rfl⟩
    have hE2 : E < 16384 := by omega
    obtain ⟨hi, hhi⟩ : ∃ a : Nat, h % 2 ^ 49 = a := ⟨_, rfl⟩
    rw [hE, hhi] at hdec
    rw [hhi] at hsp1 hsp2 hzero hcoef' hm49
    obtain ⟨N, hN⟩ : ∃ N, num hi l = N := ⟨_, rfl⟩
    rw [hN] at hdec hsp1 hsp2 hzero hcoef'
    obtain ⟨e, he⟩ : ∃ e : Int, (E : Int) - 6176 = e := ⟨_, rfl⟩
    rw [he] at hdec
    have h34 := len34 hcoef'
    have htxt := textD_eq N e (decide (s63 = 1)) (by omega)
    have hsign : (if decide (s63 = 1) then [45] else [] : List UInt8) = (if ps = 0 then [45] else []) := by
      rw [hps]; rcases hs2 with rfl | rfl <;> rfl
    rw [hdec, htxt, hsign]
    intro K1 hK1
    have key1 : K1 (E : Int) (hi : Int) (l : Int) w := by
      refine hK1 _ _ _ w ⟨e, by rw [i64w (by omega) (by omega)]; omega, ?_⟩
      clear hK1 hK
      intro K2 hK2
      have key2 : ¬ (N = 0 ∧ e = 0) → K2 w := by
        intro hne
        refine hK2 w fun w4 hw4 => ⟨48 + e, i64w (by omega) (by omega), ?_⟩
        clear hK2
        rw [zeros234] at hw4
        have hk4 : Keeps w w4 := by rw [hw4]; exact (Keeps.refl w).alloc _
        have hv4 : Var w4 w.heap.size 234 (List.replicate 48 (.int .u8 0)) := by rw [hw4]; exact var_alloc w _ 234
        have hlt4 := hv4.lt
        clear hw4
        obtain ⟨n, hn⟩ : ∃ n, n = (decF N).length := ⟨_, rfl⟩
        have hshape := shape_of hn hne
        obtain ⟨μ, hμ⟩ : ∃ μ, pointD n e = μ := ⟨_, rfl⟩
        obtain ⟨K, hKc⟩ : ∃ K, countD n e = K := ⟨_, rfl⟩
        have hlast : lastE n e = expD e μ K := by unfold lastE expD; rw [hμ, hKc]
        have htd : textD N e = tailD N μ K ++ suffD (expD e μ K) := by unfold textD; rw [← hn, hμ, hKc, hlast]
        rw [hμ, hKc] at hshape
        rw [htd]
        rw [← hn] at h34
        obtain ⟨hK41, hK1', hμ1⟩ := K_le hshape hn h34
        have tl : ∀ k, k ≤ 41 → (tailD N μ k).length ≤ 42 := by intro k hk; rw [tailD_len]; split <;> omega
        have setKeeps : ∀ {a : World} {cs : List Value} (p : Nat) (v : Value), Keeps w a → Var a w.heap.size 234 cs → Keeps w (a.setCell ⟨w.heap.size, p, none⟩ v) := fun p v ha hv => Below.setCell ha (p := ⟨w.heap.size, p, none⟩) (Nat.le_refl _) v
        intro K3 hK3
        -- the end
        have key3 : ∀ (w5 : World) (cs : List Value), Keeps w w5 → Var w5 w.heap.size 234 cs → cs.length = 48 → TailL cs (tailD N μ K) → K3 (expD e μ K) (iD μ K) w5 := by
          intro w5 cs hk5 hv5 hl5 ht5
          have hTl := tl K hK41
          rw [iD_len N μ K]
          generalize hT : tailD N μ K = Tx at *
          have hTpos : 1 ≤ Tx.length := by rw [← hT, tailD_len]; split <;> omega
          generalize hX : expD e μ K = X at *
          have hXb : -20000 ≤ X ∧ X ≤ 20000 := by
            rw [← hX]; unfold expD
            have hm : μ ≤ 200 := by rcases hshape with h' | h' | h' | h' <;> omega
            split <;> omega
          obtain ⟨p, hp⟩ : ∃ p : Nat, p + Tx.length = 48 := ⟨48 - Tx.length, by omega⟩
          have hpi : (48 : Int) - (Tx.length : Int) = (p : Int) := by omega
          rw [hpi]
          have e1 : ∀ q : Nat, ((⟨w.heap.size, 0, none⟩ : Addr).add (((q : Nat) : Int).toNat * 1)) = ⟨w.heap.size, q, none⟩ := fun q => by rw [add_at, Nat.zero_add, Nat.mul_one, Int.toNat_natCast]
          refine hK3 X p w5 ⟨((p - 1 : Nat) : Int), by rw [i64w (by omega) (by omega)]; omega, ⟨by omega, by omega⟩, by rw [e1]; exact hv5.can (by omega) rfl, fun w6 hw6 => ⟨((p - 1 : Nat) : Int), by rw [i64w (by omega) (by omega)]; omega, ?_⟩⟩
          rw [e1] at hw6
          have hk6 : Keeps w w6 := by rw [hw6]; exact setKeeps _ _ hk5 hv5
          have hv6 : Var w6 w.heap.size 234 (cs.set (p - 1) (.int .u8 45)) := by rw [hw6]; exact hv5.set _ _
          obtain ⟨S, hS⟩ : ∃ S : List UInt8, S = (if ps = 0 then [45] else []) ++ Tx := ⟨_, rfl⟩
          have hSl : S.length = 48 - (p - 1 + ps) := by
            rw [hS, List.length_append]
            split <;> simp <;> omega
          have hadr : ∀ q : Int, q = ((p - 1 + ps : Nat) : Int) → slAddr (some ⟨w.heap.size, 0, none⟩) 48 q.toNat 1 = some ⟨w.heap.size, p - 1 + ps, none⟩ := by
            intro q hq
            rw [hq, Int.toNat_natCast]
            unfold slAddr
            rw [if_neg (by omega), Nat.mul_one, Option.map_some, add_at, Nat.zero_add]
          have hrd : ∀ w', Keeps w6 w' → ReadsB w' (some ⟨w.heap.size, p - 1 + ps, none⟩) S := by
            intro w' hk' j b hj
            refine ⟨_, rfl, ?_⟩
            rw [add_at]
            refine (hv6.keeps hk').lies.at (p - 1 + ps + j) ?_ (Nat.zero_add _).symm
            rw [hS] at hj
            by_cases hps0 : ps = 0
            · rw [if_pos hps0] at hj
              cases j with
              | zero =>
                have : b = 45 := by simpa using hj.symm
                subst this
                simp only [hps0, Nat.add_zero]
                rw [List.getElem?_set_self (by omega)]; rfl
              | succ j =>
                have hj' : Tx[j]? = some b := by simpa using hj
                have := ht5 j b hj'
                rw [List.getElem?_set_ne (by omega), show p - 1 + ps + (j + 1) = 48 - Tx.length + j by omega]
                exact this
            · rw [if_neg hps0, List.nil_append] at hj
              have := ht5 j b hj
              rw [List.getElem?_set_ne (by omega), show p - 1 + ps + j = 48 - Tx.length + j by omega]
              exact this
          have hwr : IntKind.i64.wrap (((p - 1 : Nat) : Int) + (ps : Int)) = ((p - 1 + ps : Nat) : Int) := by rw [i64w (by omega) (by omega)]; omega
          have hconv : ∀ w', Keeps w6 w' → (convert 23 9 (.slice (slAddr (some ⟨w.heap.size, 0, none⟩) 48 ((p - 1 + ps : Nat) : Int).toNat 1) (48 - ((p - 1 + ps : Nat) : Int).toNat) (48 - ((p - 1 + ps : Nat) : Int).toNat))).run prog w' = .ok (.string (mkS S)) w' := by
            intro w' hk'
            rw [hadr _ rfl]
            exact conv_string (hrd w' hk') (by rw [hSl, Int.toNat_natCast])
          have kd : Keeps w6 w6.drew := (Keeps.refl w6).drew
          have hTab : ∀ w', Keeps w6 w' → Pow w' := fun w' hk' => (T.keeps (hk6.trans hk')).pow
          have hX1 := decNum_len' X (by omega) (by omega)
          have hassoc : ∀ Z : List UInt8, (if ps = 0 then [45] else []) ++ (Tx ++ Z) = S ++ Z := fun Z => by rw [hS, List.append_assoc]
          refine ⟨fun hx => ?_, fun hx => ⟨fun hy => ?_, fun hy => ?_⟩⟩
          · have hx := of_decide_eq_true hx
            rw [suffD_pos X hx, hassoc]
            refine ⟨[], trivial, _, hwr, ⟨by omega, by omega, by omega⟩, ⟨S, w6.drew, hconv _ kd, by simp; omega, (ret167 X (by omega) (by omega) w6.drew (hTab _ kd)).go fun w8 hk8 => ⟨_, rfl, by simp; omega, by rw [List.append_assoc], (hk6.trans kd).trans hk8⟩⟩,
              (ret167 X (by omega) (by omega) w6.drew (hTab _ kd)).go fun w8 hk8 => ⟨_, rfl, S, w8, hconv _ (kd.trans hk8), by simp; omega, by simp; omega, by rw [List.append_assoc], (hk6.trans kd).trans hk8⟩⟩
          · have hy := of_decide_eq_true hy
            rw [suffD_neg X hy, hassoc]
            refine ⟨[], trivial, _, hwr, ⟨by omega, by omega, by omega⟩, ⟨S, w6.drew, hconv _ kd, by simp; omega, (ret167 X (by omega) (by omega) w6.drew (hTab _ kd)).go fun w8 hk8 => ⟨_, rfl, by simp; omega, by rw [List.append_assoc], (hk6.trans kd).trans hk8⟩⟩,
              (ret167 X (by omega) (by omega) w6.drew (hTab _ kd)).go fun w8 hk8 => ⟨_, rfl, S, w8, hconv _ (kd.trans hk8), by simp; omega, by simp; omega, by rw [List.append_assoc], (hk6.trans kd).trans hk8⟩⟩
          · have hx := of_decide_eq_false hx
            have hy := of_decide_eq_false hy
            have hsuf : suffD X = [] := by unfold suffD; rw [if_neg hx, if_neg hy]
            rw [hsuf, hassoc, List.append_nil]
            exact ⟨_, hwr, ⟨by omega, by omega, by omega⟩, S, w6, hconv _ (Keeps.refl _), rfl, hk6⟩
        clear hK3
        have hstart : TailL (List.replicate 48 (.int .u8 0)) (tailD N μ 0) := by
          rw [tailD_zero]; intro j b hj; simp at hj
        -- nine digits at a time
        refine ⟨fun m ex hi' lo' la i dt d9 w' => ∃ (q : Nat) (cs : List Value), d9 = q ∧ q ≤ 5 ∧ m = 5 - q ∧ 9 * q < K ∧ ex = expD e μ (9 * q) ∧ i = iD μ (9 * q) ∧ dt = dotD e μ (9 * q) ∧ hi' = ((N / 10 ^ (9 * q) / B64 : Nat) : Int) ∧ lo' = ((N / 10 ^ (9 * q) % B64 : Nat) : Int) ∧
            Keeps w w' ∧ Var w' w.heap.size 234 cs ∧ cs.length = 48 ∧ TailL cs (tailD N μ (9 * q)), ⟨5, 0, List.replicate 48 (.int .u8 0), rfl, by omega, rfl, by omega, ?_, ?_, ?_, ?_, ?_, hk4, hv4, by simp, hstart⟩, ?_⟩
        · unfold expD; rw [if_pos (by omega)]
        · unfold iD; rw [if_pos (by omega)]; rfl
        · unfold dotD; rw [if_pos (by omega)]
        · rw [Nat.mul_zero, Nat.pow_zero, Nat.div_one, hsp1]
        · rw [Nat.mul_zero, Nat.pow_zero, Nat.div_one, hsp2]
        rintro m ex hi' lo' la i dt d9 w16 ⟨q, cs, rfl, hq5, rfl, hqK, rfl, rfl, rfl, rfl, rfl, hk16, hv16, hl16, ht16⟩
        have hqlt : q < 5 := by omega
        refine ⟨fun _ => ?_, fun hd => absurd (of_decide_eq_false hd) (by omega)⟩
        have hAle : N / 10 ^ (9 * q) ≤ N := Nat.div_le_self _ _
        have hNB : N < B64 * B64 := by rw [← hN]; exact num_lt hm49 hl
        have hd1 : N / 10 ^ (9 * q) / B64 < 18446744073709551616 := by
          have : N / 10 ^ (9 * q) < B64 * B64 := Nat.lt_of_le_of_lt hAle hNB
          exact Nat.div_lt_of_lt_mul this
        have hd2 : N / 10 ^ (9 * q) % B64 < 18446744073709551616 := Nat.mod_lt _ B64_pos
        refine (ret166 _ _ hd1 hd2 w16).go fun w17 hk17 => ⟨_, _, _, rfl, ?_⟩
        rw [num_split]
        obtain ⟨A, hA⟩ : ∃ A, N / 10 ^ (9 * q) = A := ⟨_, rfl⟩
        rw [hA]
        obtain ⟨H, hH⟩ : ∃ H, A / 1000000000 = H := ⟨_, rfl⟩
        rw [hH]
        have hz : (((H / B64 : Nat) : Int) = 0 ∧ ((H % B64 : Nat) : Int) = 0) ↔ H = 0 := by
          have := num_zero (hi := H / B64) (lo := H % B64)
          rw [num_split] at this
          rw [this]; constructor <;> intro h' <;> exact ⟨by omega, by omega⟩
        obtain ⟨xa, hxa⟩ : ∃ x : Int, ((H / B64 : Nat) : Int) = x := ⟨_, rfl⟩
        obtain ⟨xb, hxb⟩ : ∃ x : Int, ((H % B64 : Nat) : Int) = x := ⟨_, rfl⟩
        have hnext1 : xa = ((N / 10 ^ (9 * (q + 1)) / B64 : Nat) : Int) := by rw [nine_next, hA, hH, hxa]
        have hnext2 : xb = ((N / 10 ^ (9 * (q + 1)) % B64 : Nat) : Int) := by rw [nine_next, hA, hH, hxb]
        rw [hxa, hxb] at hz ⊢
        have hk17' := hk16.trans hk17
        refine ⟨fun m ex la i dt rm d1 w' => ∃ (j : Nat) (cs : List Value), d1 = j ∧ j ≤ 9 ∧ m = 9 - j ∧ 9 * q + j < K ∧ ex = expD e μ (9 * q + j) ∧ i = iD μ (9 * q + j) ∧ dt = dotD e μ (9 * q + j) ∧ rm = ((A % 1000000000 / 10 ^ j : Nat) : Int) ∧
            Keeps w w' ∧ Var w' w.heap.size 234 cs ∧ cs.length = 48 ∧ TailL cs (tailD N μ (9 * q + j)), ⟨9, 0, cs, rfl, by omega, rfl, hqK, rfl, rfl, rfl, by rw [Nat.pow_zero, Nat.div_one], hk17', hv16.keeps hk17, hl16, ht16⟩, ?_⟩
        rintro m3 ex la i dt rm d1 w18 ⟨j, cs, rfl, hj9, rfl, hjK, rfl, rfl, rfl, rfl, hk18, hv18, hl18, ht18⟩
        refine ⟨fun hd => ?_, fun hd => ?_⟩
        · have hj : j < 9 := by have := of_decide_eq_true hd; omega
          obtain ⟨r, hr⟩ : ∃ r, A % 1000000000 / 10 ^ j = r := ⟨_, rfl⟩
          obtain ⟨F1, F2, F3, F4⟩ := nine_facts N q j hj r H (by rw [hA, hr]) (by rw [hA, hH])
          rw [hA] at F4
          rw [hr]
          have hr9 : r < 1000000000 := by
            rw [← hr]
            exact Nat.lt_of_le_of_lt (Nat.div_le_self _ _) (Nat.mod_lt _ (by decide))
          obtain ⟨k, hk⟩ : ∃ k, 9 * q + j = k := ⟨_, rfl⟩
          rw [show 9 * q + j + 1 = k + 1 by omega] at F3
          rw [hk] at F1 F2 hjK ht18 ⊢
          have C1 := cond_point hshape hn h34 hjK
          have C2 := cond_one hshape hn h34 hjK
          have C3 := cond_end hshape hn h34 hjK
          have C4 := end_last (k := k) hshape hn h34
          rw [← F2] at C1
          rw [← F3] at C2 C3
          have hTl := tl k (by omega)
          have hI := iD_len N μ k
          have hI' := iD_len N μ (k + 1)
          have hcv := c10_val N k
          rw [← F1] at hcv
          have hdig : N / 10 ^ k % 10 = r % 10 := F1.symm
          rw [hdig] at C4
          have htn := tail_next N μ k
          have hstate : (k = μ → expD e μ k + (48 - iD μ k) = expD e μ (k + 1) ∧ dotD e μ (k + 1) = 48) ∧ (k ≠ μ → expD e μ k = expD e μ (k + 1) ∧ dotD e μ k = dotD e μ (k + 1)) := by
            unfold expD iD dotD
            constructor
            · intro hkm
              rw [if_pos (by omega), if_pos (by omega), if_neg (by omega), if_neg (by omega)]
              exact ⟨by omega, rfl⟩
            · intro hkm
              by_cases hlt : k < μ
              · rw [if_pos (by omega), if_pos (by omega), if_pos (by omega), if_pos (by omega)]; exact ⟨rfl, rfl⟩
              · rw [if_neg (by omega), if_neg (by omega), if_neg (by omega), if_neg (by omega)]; exact ⟨rfl, rfl⟩
          have hexb : -30000 ≤ expD e μ k ∧ expD e μ k ≤ 30000 := by
            unfold expD
            have hm : μ ≤ 200 := by rcases hshape with h' | h' | h' | h' <;> omega
            split <;> omega
          have htl1 : (tailD N μ (k + 1)).length = (tailD N μ k).length + (if k = μ then 2 else 1) := by
            rw [htn]; split <;> rfl
          obtain ⟨L, hL⟩ : ∃ L, (tailD N μ k).length = L := ⟨_, rfl⟩
          rw [hL] at hTl hI htl1
          intro K4 hK4
          have key4 : ∀ (la3 : Int) (w19 : World) (cs19 : List Value) (T0 : List UInt8), T0 = (if k = μ then 46 :: tailD N μ k else tailD N μ k) → Keeps w w19 → Var w19 w.heap.size 234 cs19 → cs19.length = 48 → TailL cs19 T0 → (k = μ → la3 = 48 - (T0.length : Int) - 1) →
              K4 (expD e μ (k + 1)) la3 (48 - (T0.length : Int)) (dotD e μ (k + 1)) w19 := by
            intro la3 w19 cs19 T0 hT0 hk19 hv19 hl19 ht19 hla
            have hT0l : T0.length = L + (if k = μ then 1 else 0) := by rw [hT0]; split <;> simp [hL]
            have hT0b : T0.length ≤ 43 := by rw [hT0l]; split <;> omega
            have hnew : tailD N μ (k + 1) = c10 N k :: T0 := by rw [htn, hT0]; split <;> rfl
            have hIn : iD μ (k + 1) = 48 - (T0.length : Int) - 1 := by rw [hI', hnew, List.length_cons]; omega
            obtain ⟨p, hp⟩ : ∃ p : Nat, p + T0.length = 47 := ⟨47 - T0.length, by omega⟩
            have hpi : 48 - (T0.length : Int) - 1 = (p : Int) := by omega
            have e1 : ((⟨w.heap.size, 0, none⟩ : Addr).add (((p : Nat) : Int).toNat * 1)) = ⟨w.heap.size, p, none⟩ := by rw [add_at, Nat.zero_add, Nat.mul_one, Int.toNat_natCast]
            have t1 : Int.tmod (r : Int) 10 = ((r % 10 : Nat) : Int) := by rw [Int.tmod_eq_emod_of_nonneg (by omega)]; omega
            have t2 : IntKind.u32.wrap (Int.tdiv (r : Int) 10) = ((r / 10 : Nat) : Int) := by rw [Int.tdiv_eq_ediv_of_nonneg (by omega), u32w (by omega) (by omega)]; omega
            refine hK4 _ la3 _ _ w19 ⟨by decide, _, t1, ((r % 10 : Nat) : Int), u8w (by omega) (by omega), ((c10 N k).toNat : Int), by rw [hcv, u8w (by omega) (by omega)]; omega, by decide, _, t2, (p : Int), by rw [i64w (by omega) (by omega)]; omega, ⟨by omega, by omega⟩, by rw [e1]; exact hv19.can (by omega) rfl, fun w20 hw20 => ?_⟩
            rw [e1] at hw20
            have hk20 : Keeps w w20 := by rw [hw20]; exact setKeeps _ _ hk19 hv19
            have hv20 : Var w20 w.heap.size 234 (cs19.set p (.int .u8 ((c10 N k).toNat : Int))) := by rw [hw20]; exact hv19.set _ _
            have ht20 : TailL (cs19.set p (.int .u8 ((c10 N k).toNat : Int))) (tailD N μ (k + 1)) := by
              rw [hnew, show p = 47 - T0.length by omega]
              exact ht19.push hl19 (by omega) _
            have hl20 : (cs19.set p (.int .u8 ((c10 N k).toNat : Int))).length = 48 := by rw [List.length_set]; exact hl19
            generalize cs19.set p (.int .u8 ((c10 N k).toNat : Int)) = cs20 at *
            have hIp : iD μ (k + 1) = (p : Int) := by rw [hIn, hpi]
            rw [hIp] at C2 C3
            generalize hEx : expD e μ (k + 1) = Ex at *
            generalize hDt : dotD e μ (k + 1) = Dt at *
            -- the end is reached
            have fin : k + 1 = K → K3 Ex (p : Int) w20 := by
              intro hkK
              have := key3 w20 cs20 hk20 hv20 hl20 (by rw [← hkK]; exact ht20)
              rw [← hkK, hEx, hIp] at this
              exact this
            -- another digit
            have cont : ∀ la5 : Int, k + 1 < K → ∃ x75 : Int, IntKind.i64.wrap ((j : Int) + 1) = x75 ∧ ∃ m_4, m_4 < 9 - j ∧ (∃ (j' : Nat) (cs : List Value), x75 = j' ∧ j' ≤ 9 ∧ m_4 = 9 - j' ∧ 9 * q + j' < K ∧ Ex = expD e μ (9 * q + j') ∧ (p : Int) = iD μ (9 * q + j') ∧ Dt = dotD e μ (9 * q + j') ∧ ((r / 10 : Nat) : Int) = ((A % 1000000000 / 10 ^ j' : Nat) : Int) ∧
                Keeps w w20 ∧ Var w20 w.heap.size 234 cs ∧ cs.length = 48 ∧ TailL cs (tailD N μ (9 * q + j'))) := by
              intro la5 hkK
              have hkk : 9 * q + (j + 1) = k + 1 := by omega
              exact ⟨_, i64w (by omega) (by omega), 9 - (j + 1), by omega, j + 1, cs20, by omega, by omega, rfl, by omega, by rw [hkk, hEx], by rw [hkk, hIp], by rw [hkk, hDt], by rw [F4], hk20, hv20, hl20, by rw [hkk]; exact ht20⟩
            intro K5 hK5
            have key5 : ¬ (K = 1 ∧ (0 < e ∨ e < -6)) → K5 la3 w20 := by
              intro hone
              have C3' := C3 hone
              have C4' := C4 hone
              refine hK5 la3 w20 ?_
              intro K6 hK6
              have key6 : ∀ la5 : Int, (k + 1 = K → la5 = (p : Int)) → K6 la5 w20 := by
                intro la5 hla5
                refine hK6 la5 w20 ⟨fun h1 => ⟨fun h2 => ⟨fun h3 => ⟨fun h4 => ?_, fun h4 => cont la5 ?_⟩, fun h3 => cont la5 ?_⟩, fun h2 => cont la5 ?_⟩, fun h1 => cont la5 ?_⟩
                · have h1 := of_decide_eq_true h1
                  have h2 := of_decide_eq_true h2
                  have h3 := of_decide_eq_true h3
                  have h4 := of_decide_eq_true h4
                  have hend : k + 1 = K := C3'.1 ⟨h1, hz.1 ⟨h3, h2⟩, by omega⟩
                  rw [hla5 hend]; exact fin hend
                · have h4 := of_decide_eq_false h4
                  have : ¬ k + 1 = K := fun hend => h4 (by have := (C3'.2 hend).2.2; omega)
                  omega
                · have h3 := of_decide_eq_false h3
                  have : ¬ k + 1 = K := fun hend => h3 (hz.2 (C3'.2 hend).2.1).1
                  omega
                · have h2 := of_decide_eq_false h2
                  have : ¬ k + 1 = K := fun hend => h2 (hz.2 (C3'.2 hend).2.1).2
                  omega
                · have h1 := of_decide_eq_false h1
                  have : ¬ k + 1 = K := fun hend => h1 (C3'.2 hend).1
                  omega
              refine ⟨fun h1 => key6 _ fun _ => rfl, fun h1 => key6 _ fun hend => ?_⟩
              have h1 : ((c10 N k).toNat : Int) = 48 := by simpa using h1
              rcases C4' hend with hkm | hne
              · rw [hla hkm, hpi]
              · exfalso; rw [hcv] at h1; omega
            -- is it the one digit?
            have one : (Dt < 42 ∨ 0 < Ex) → xb = 0 → xa = 0 → ((r / 10 : Nat) : Int) = 0 → (p : Int) = 47 → K3 Ex (p : Int) w20 := by
              intro h1 h2 h3 h4 h5
              have h' := C2.1 ⟨⟨hz.1 ⟨h3, h2⟩, by omega⟩, h5, h1⟩
              exact fin (by omega)
            have notone : (xb ≠ 0 ∨ xa ≠ 0 ∨ ((r / 10 : Nat) : Int) ≠ 0 ∨ (p : Int) ≠ 47 ∨ ¬ (Dt < 42 ∨ 0 < Ex)) → K5 la3 w20 := by
              intro h1
              refine key5 fun hone => ?_
              obtain ⟨⟨a1, a2⟩, a3, a4⟩ := C2.2 hone
              have := hz.2 a1
              rcases h1 with h1 | h1 | h1 | h1 | h1
              · exact h1 this.2
              · exact h1 this.1
              · exact h1 (by omega)
              · exact h1 a3
              · exact h1 a4
            refine ⟨fun h1 => ⟨fun h2 => ⟨fun h3 => ⟨fun h4 => ⟨(p : Int) - 5, i64w (by omega) (by omega), fun h5 => ?_, fun h5 => ⟨fun h6 => ?_, fun h6 => ?_⟩⟩, fun h4 => ?_⟩, fun h3 => ?_⟩, fun h2 => ?_⟩, fun h1 => ?_⟩
            · have h4 := of_decide_eq_true h4
              have h5 := of_decide_eq_true h5
              exact one (.inl (by omega)) (of_decide_eq_true h1) (of_decide_eq_true h2) (of_decide_eq_true h3) h4
            · exact one (.inr (of_decide_eq_true h6)) (of_decide_eq_true h1) (of_decide_eq_true h2) (of_decide_eq_true h3) (of_decide_eq_true h4)
            · have h4 := of_decide_eq_true h4
              have h5 := of_decide_eq_false h5
              have h6 := of_decide_eq_false h6
              exact notone (.inr (.inr (.inr (.inr (by omega)))))
            · exact notone (.inr (.inr (.inr (.inl (of_decide_eq_false h4)))))
            · exact notone (.inr (.inr (.inl (of_decide_eq_false h3))))
            · exact notone (.inr (.inl (of_decide_eq_false h2)))
            · exact notone (.inl (of_decide_eq_false h1))
          intro K7 hK7
          have key7 : ∀ b : Bool, (b = true ↔ k = μ) → K7 b w18 := by
            intro b hb
            refine hK7 b w18 ⟨fun hbt => ?_, fun hbf => ?_⟩
            · have hkm := hb.1 hbt
              obtain ⟨p, hp⟩ : ∃ p : Nat, p + L = 47 := ⟨47 - L, by omega⟩
              have e1 : ((⟨w.heap.size, 0, none⟩ : Addr).add (((p : Nat) : Int).toNat * 1)) = ⟨w.heap.size, p, none⟩ := by rw [add_at, Nat.zero_add, Nat.mul_one, Int.toNat_natCast]
              refine ⟨48 - iD μ k, i64w (by omega) (by omega), expD e μ k + (48 - iD μ k), i64w (by omega) (by omega), (p : Int), by rw [i64w (by omega) (by omega)]; omega, ⟨by omega, by omega⟩, by rw [e1]; exact hv18.can (by omega) rfl, fun w24 hw24 => ⟨(p : Int) - 1, i64w (by omega) (by omega), ?_⟩⟩
              rw [e1] at hw24
              have hk24 : Keeps w w24 := by rw [hw24]; exact setKeeps _ _ hk18 hv18
              have hv24 : Var w24 w.heap.size 234 (cs.set p (.int .u8 46)) := by rw [hw24]; exact hv18.set _ _
              have ht24 : TailL (cs.set p (.int .u8 46)) (46 :: tailD N μ k) := by
                rw [show p = 47 - (tailD N μ k).length by omega]
                exact ht18.push hl18 (by omega) 46
              have := key4 ((p : Int) - 1) w24 _ (46 :: tailD N μ k) (by rw [if_pos hkm]) hk24 hv24 (by rw [List.length_set]; exact hl18) ht24 (fun _ => by rw [List.length_cons, hL]; omega)
              rw [List.length_cons, hL] at this
              rw [(hstate.1 hkm).1]
              rw [(hstate.1 hkm).2] at this
              have e2 : (48 : Int) - ((L + 1 : Nat) : Int) = (p : Int) := by omega
              rw [e2] at this
              exact this
            · have hkm : ¬ k = μ := fun h' => by rw [hb.2 h'] at hbf; cases hbf
              have := key4 la w18 cs (tailD N μ k) (by rw [if_neg hkm]) hk18 hv18 hl18 ht18 (fun h' => absurd h' hkm)
              rw [hL] at this
              rw [(hstate.2 hkm).1, (hstate.2 hkm).2, hI]
              exact this
          generalize hIk : iD μ k = Ik at *
          generalize hDk : dotD e μ k = Dk at *
          generalize hEk : expD e μ k = Ek at *
          refine ⟨fun h1 => ⟨fun h2 => key7 true ?_, fun h2 => ⟨fun h3 => ⟨fun h4 => ⟨fun h5 => ⟨fun h6 => ⟨Ik - 6, i64w (by omega) (by omega), fun h7 => key7 true ?_, fun h7 => key7 _ ?_⟩, fun h6 => key7 false ?_⟩, fun h5 => key7 false ?_⟩, fun h4 => key7 false ?_⟩, fun h3 => key7 false ?_⟩⟩, fun h1 => key7 false ?_⟩
          all_goals rw [← C1]
          all_goals simp only [decide_eq_true_eq, decide_eq_false_iff_not, true_iff, Bool.false_eq_true, false_iff] at *
          · omega
          · have := hz.1 ⟨h4, h3⟩; omega
          · have := hz.1 ⟨h4, h3⟩; omega
          · omega
          · omega
          · have : H ≠ 0 := fun h' => h4 (hz.2 h').1
            omega
          · have : H ≠ 0 := fun h' => h3 (hz.2 h').2
            omega
          · omega
        · have hj : j = 9 := by have := of_decide_eq_false hd; omega
          subst hj
          have e9 : 9 * (q + 1) = 9 * q + 9 := by omega
          exact ⟨_, i64w (by omega) (by omega), 5 - (q + 1), by omega, q + 1, cs, by omega, by omega, rfl, by omega, by rw [e9], by rw [e9], by rw [e9], hnext1, hnext2, hk18, hv18, hl18, by rw [e9]; exact ht18⟩
      refine ⟨fun h1 => ⟨fun h2 => ⟨fun h3 => ?_, fun h3 => key2 ?_⟩, fun h2 => key2 ?_⟩, fun h1 => key2 ?_⟩
      · have h1 := of_decide_eq_true h1
        have h2 := of_decide_eq_true h2
        have h3 := of_decide_eq_true h3
        have hN0 : N = 0 := hzero.2 ⟨by omega, by omega⟩
        refine ⟨⟨by omega, by simp; omega⟩, ?_, Keeps.refl _⟩
        rw [hN0, h3, Int.toNat_natCast]
        rcases (show ps = 0 ∨ ps = 1 by omega) with h' | h' <;> rw [h'] <;> rfl
      · have h3 := of_decide_eq_false h3
        exact fun h' => h3 h'.2
      · have h2 := of_decide_eq_false h2
        exact fun h' => h2 (by have := (hzero.1 h'.1).2; omega)
      · have h1 := of_decide_eq_false h1
        exact fun h' => h1 (by have := (hzero.1 h'.1).1; omega)
    refine ⟨by decide, _, fdiv_nat h 61, ((h / 2 ^ 61 % 4 : Nat) : Int), and3u _ (by omega), fun h3 => absurd (of_decide_eq_true h3) (by omega), fun _ => ⟨by decide, _, fdiv_nat h 49, (E : Int), by rw [and14u _ (by omega), hE], (E : Int), i64w (by omega) (by omega), (hi : Int), by rw [and49u _ hh, hhi], key1⟩⟩
  refine ⟨by decide, _, f63, _, a63, fun h0 => ?_, fun h0 => ?_⟩
  · have h0 : s63 = 0 := by have := of_decide_eq_true h0; omega
    rw [hps, if_pos h0] at key; exact key
  · have h0 : s63 ≠ 0 := by have := of_decide_eq_false h0; omega
    rw [hps, if_neg h0] at key; exact key
end Go.Proofs.Tryz
