/- The reference: twelve bytes in hexadecimal, letters that are sorted, base 64. -/
import Derived.Test.YtfofafjemgfobaaGreatDoorZ5
set_option linter.unusedVariables false
namespace Go.Proofs.Tryz
open Go.Vc Go.RowKit

def hexAll (l : List UInt8) : List UInt8 := l.flatMap fun b => hex2 b.toNat
theorem hexAll_len (l : List UInt8) : (hexAll l).length = 2 * l.length := by
  induction l with
  | nil => rfl
  | cons a l ih =>
    have : (hexAll (a :: l)).length = 2 + (hexAll l).length := by simp [hexAll, hex2]; omega
    rw [this, ih, List.length_cons]; omega
theorem hexAll_snoc (l : List UInt8) (b : UInt8) : hexAll (l ++ [b]) = hexAll l ++ hex2 b.toNat := by simp [hexAll]
def idF (l : List UInt8) : List UInt8 := 34 :: (hexAll l ++ [34])
theorem take_succ_get {α : Type} (l : List α) (k : Nat) (b : α) (h : l[k]? = some b) : l.take (k + 1) = l.take k ++ [b] := by
  rw [List.take_add_one, h]; rfl

theorem ret33 (p : Option Addr) (c : Nat) (l : List UInt8) (w : World) (hr : ReadsB w p l) (hl : l.length ≤ 1099511627776) : Ret 33 [.slice p l.length c] w (.string (mkS (idF l))) := by
  refine Ret.of (c33 p l.length c w _ ?_)
  unfold VC33
  refine ⟨fun m s i w1 => Keeps w w1 ∧ ∃ k : Nat, i = k ∧ k ≤ l.length ∧ m = l.length - k ∧ s = 34 :: hexAll (l.take k), ⟨l.length, Keeps.refl _, 0, rfl, by omega, rfl, by simp [hexAll]⟩, ?_⟩
  rintro m s i w1 ⟨hk, k, rfl, hkl, rfl, rfl⟩
  have hlen := hexAll_len (l.take k)
  rw [List.length_take] at hlen
  refine ⟨fun h => ?_, fun h => ?_⟩
  · simp only [decide_eq_true_eq] at h
    have hlt : k < l.length := by omega
    have hget := List.getElem?_eq_getElem hlt
    obtain ⟨a, ha, hc⟩ := hr k _ hget
    refine ⟨⟨by omega, by omega⟩, a, ha, ((l[k]'hlt).toNat : Int), ?_, ?_⟩
    · have e : (k : Int).toNat * 1 = k := by simp
      rw [e]; exact hk.cell hc
    · refine (ret32 _ (byte_lt _) w1).go fun w2 hk2 => ⟨_, rfl, ?_, _, i64w (by omega) (by omega), l.length - (k + 1), by omega, hk.trans hk2, k + 1, by omega, by omega, rfl, ?_⟩
      · simp [hex2]; omega
      · rw [take_succ_get l k _ hget, hexAll_snoc]; rfl
  · simp only [decide_eq_false_iff_not] at h
    have hkk : k = l.length := by omega
    subst hkk
    rw [Nat.min_self] at hlen
    refine ⟨by rw [List.length_cons, hlen, List.length_singleton]; omega, ?_, hk⟩
    rw [List.take_length]; rfl

/-- Sorted letters. -/
def sortedB (s : List UInt8) : Prop := ∀ (i : Nat) (a b : UInt8), s[i]? = some a → s[i + 1]? = some b → a.toNat ≤ b.toNat

theorem ret35 (s : List UInt8) (w : World) (hs : sortedB s) (hl : s.length ≤ 1099511627776) : Ret 35 [.string (mkS s)] w (.string (mkS s)) := by
  refine Ret.of (c35 s w _ ?_)
  unfold VC35
  obtain ⟨c, w1, hconv, _, hk1, _, hrd, _⟩ := conv_bytes w s
  refine ⟨_, _, _, w1, hconv, fun m i w2 => Keeps w1 w2 ∧ ∃ k : Nat, i = k ∧ k ≤ s.length ∧ m = s.length - k, ⟨s.length, Keeps.refl _, 0, rfl, by omega, rfl⟩, ?_⟩
  rintro m i w2 ⟨hk2, k, rfl, hkl, rfl⟩
  refine ⟨fun h => ?_, fun h => ?_⟩
  · simp only [decide_eq_true_eq] at h
    refine ⟨fun m j w3 => Keeps w1 w3 ∧ j = k, ⟨0, hk2, rfl⟩, ?_⟩
    rintro m j w3 ⟨hk3, rfl⟩
    have hlt : k < s.length := by omega
    refine ⟨fun h0 => ?_, fun h0 => ?_⟩
    · simp only [decide_eq_true_eq] at h0
      have hget := List.getElem?_eq_getElem hlt
      have hget' := List.getElem?_eq_getElem (show k - 1 < s.length by omega)
      have hle := hs (k - 1) _ _ hget' (by rw [show k - 1 + 1 = k by omega]; exact hget)
      refine ⟨⟨by omega, by omega⟩, _, rfl, ((s[k]'hlt).toNat : Int), ?_, _, i64w (n := (k : Int) - 1) (by omega) (by omega), ⟨by omega, by omega⟩, _, rfl, ((s[k - 1]'(by omega)).toNat : Int), ?_, fun hx => ?_, fun hx => ⟨_, i64w (n := (k : Int) + 1) (by omega) (by omega), s.length - (k + 1), by omega, hk3.drew, k + 1, by omega, by omega, rfl⟩⟩
      · have e : (k : Int).toNat * 1 = k := by simp
        rw [e]; exact hk3.cell (hrd.at hget)
      · have e : ((k : Int) - 1).toNat * 1 = k - 1 := by omega
        rw [e]; exact hk3.cell (hrd.at hget')
      · simp only [decide_eq_true_eq] at hx; omega
    · exact ⟨_, i64w (n := (k : Int) + 1) (by omega) (by omega), s.length - (k + 1), by omega, hk3.drew, k + 1, by omega, by omega, rfl⟩
  · exact ⟨s, w2, conv_string (hrd.keeps hk2) rfl, rfl, hk1.trans hk2⟩

/-! ### base 64 -/
def letters64 : List UInt8 := [65, 66, 67, 68, 69, 70, 71, 72, 73, 74, 75, 76, 77, 78, 79, 80, 81, 82, 83, 84, 85, 86, 87, 88, 89, 90, 97, 98, 99, 100, 101, 102, 103, 104, 105, 106, 107, 108, 109, 110, 111, 112, 113, 114, 115, 116, 117, 118, 119, 120, 121, 122, 48, 49, 50, 51, 52, 53, 54, 55, 56, 57, 43, 47]
def L64 (i : Nat) : UInt8 := letters64.getD i 0
theorem L64_get (n : Nat) (h : n < 64) : letters64[n]? = some (L64 n) := by
  unfold L64
  rw [List.getD_eq_getElem?_getD, List.getElem?_eq_getElem (by simpa [letters64] using h)]; rfl
def val64 (l : List UInt8) : Nat → Nat
  | 0 => 0
  | k + 1 => val64 l k * 256 + (l.getD k 0).toNat
def quad64 (n have' : Nat) : Nat → List UInt8
  | 0 => []
  | k + 1 => quad64 n have' k ++ [if have' < k then 61 else L64 (n / 2 ^ (18 - 6 * k) % 64)]
def b64G : Nat → List UInt8 → List UInt8
  | 0, _ => []
  | f + 1, l => if l = [] then [] else quad64 (val64 l 3) (min 3 l.length) 4 ++ b64G f (l.drop 3)
def b64F (l : List UInt8) : List UInt8 := b64G l.length l
theorem b64G_fuel : ∀ (f g : Nat) (s : List UInt8), s.length ≤ f → s.length ≤ g → b64G f s = b64G g s
  | 0, g, s, hf, hg => by
    have : s = [] := List.eq_nil_of_length_eq_zero (by omega)
    subst this
    cases g <;> simp [b64G]
  | f + 1, 0, s, hf, hg => by
    have : s = [] := List.eq_nil_of_length_eq_zero (by omega)
    subst this
    simp [b64G]
  | f + 1, g + 1, s, hf, hg => by
    simp only [b64G]
    split
    · rfl
    · rw [b64G_fuel f g _ (by rw [List.length_drop]; omega) (by rw [List.length_drop]; omega)]
theorem b64F_nil : b64F [] = [] := rfl
theorem b64F_cons (l : List UInt8) (h : l ≠ []) : b64F l = quad64 (val64 l 3) (min 3 l.length) 4 ++ b64F (l.drop 3) := by
  have hl : 0 < l.length := List.length_pos_iff.2 h
  unfold b64F
  obtain ⟨n, hn⟩ : ∃ n, l.length = n + 1 := ⟨l.length - 1, by omega⟩
  conv => lhs; rw [hn]
  simp only [b64G, if_neg h]
  rw [b64G_fuel n (l.drop 3).length _ (by rw [List.length_drop]; omega) (Nat.le_refl _)]
theorem quad64_len (n h' : Nat) : ∀ k, (quad64 n h' k).length = k
  | 0 => rfl
  | k + 1 => by simp [quad64, quad64_len n h' k]
theorem b64F_len : ∀ (n : Nat) (l : List UInt8), l.length ≤ n → (b64F l).length ≤ 4 * l.length
  | 0, l, h => by
    have : l = [] := List.eq_nil_of_length_eq_zero (by omega)
    subst this; simp [b64F_nil]
  | n + 1, l, h => by
    by_cases hl : l = []
    · subst hl; simp [b64F_nil]
    · have h0 : 0 < l.length := List.length_pos_iff.2 hl
      rw [b64F_cons l hl, List.length_append, quad64_len]
      have := b64F_len n (l.drop 3) (by rw [List.length_drop]; omega)
      rw [List.length_drop] at this
      omega
theorem val64_lt (l : List UInt8) : ∀ k, val64 l k < 256 ^ k
  | 0 => by simp [val64]
  | k + 1 => by
    have := val64_lt l k
    have hb := (l.getD k 0).toNat_lt
    simp only [val64, Nat.pow_succ]
    omega

theorem ret31 (p : Option Addr) (c : Nat) (l : List UInt8) (w : World) (hr : ReadsB w p l) (hl : l.length ≤ 1099511627776) : Ret 31 [.slice p l.length c] w (.string (mkS (b64F l))) := by
  refine Ret.of (c31 p l.length c w _ ?_)
  unfold VC31
  refine ⟨fun m q n c i w1 => Keeps w w1 ∧ ∃ (k : Nat) (acc : List UInt8), i = k ∧ k ≤ l.length + 2 ∧ m = l.length + 3 - k ∧ Own w.heap.size w1 q n c acc ∧ acc.length ≤ 4 * k ∧ b64F l = acc ++ b64F (l.drop k),
    ⟨l.length + 3, Keeps.refl _, 0, [], rfl, by omega, rfl, Own.nil _ _, by simp, by simp⟩, ?_⟩
  rintro m q n c i w1 ⟨hk1, k, acc, rfl, hkl, rfl, ho1, hal, hb⟩
  refine ⟨fun h => ?_, fun h => ?_⟩
  · simp only [decide_eq_true_eq] at h
    have hlt : k < l.length := by omega
    have hne : l.drop k ≠ [] := by
      intro e; have := congrArg List.length e; simp at this; omega
    have hcons := b64F_cons (l.drop k) hne
    rw [List.drop_drop] at hcons
    refine ⟨fun m n' h' j w2 => w2 = w1 ∧ ∃ t : Nat, j = t ∧ t ≤ 3 ∧ m = 3 - t ∧ n' = (val64 (l.drop k) t : Nat) ∧ h' = (min t (l.drop k).length : Nat), ⟨3, rfl, 0, rfl, by omega, rfl, rfl, by simp⟩, ?_⟩
    rintro m n' h' j w2 ⟨rfl, t, rfl, ht3, rfl, rfl, rfl⟩
    have hv := val64_lt (l.drop k) t
    have hv3 : 256 ^ t ≤ 256 ^ 3 := Nat.pow_le_pow_right (by decide) ht3
    rw [List.length_drop]
    refine ⟨fun h3 => ?_, fun h3 => ?_⟩
    · simp only [decide_eq_true_eq] at h3
      refine ⟨by decide, _, i64w (n := (val64 (l.drop k) t : Int) * 2 ^ 8) (by omega) (by omega), _, i64w (n := (k : Int) + (t : Int)) (by omega) (by omega), fun h4 => ?_, fun h4 => ?_⟩
      · simp only [decide_eq_true_eq] at h4
        have hlt' : k + t < l.length := by omega
        have hget := List.getElem?_eq_getElem hlt'
        obtain ⟨a, ha, hcell⟩ := hr (k + t) _ hget
        have hb4 := (l[k + t]'hlt').toNat_lt
        refine ⟨_, i64w (n := (k : Int) + (t : Int)) (by omega) (by omega), ⟨by omega, by omega⟩, a, ha, ((l[k + t]'hlt').toNat : Int), ?_, _, i64w (by omega) (by omega), _,
          bits_join .i64 63 (by decide) (fun n h0 h1 => i64w (by omega) (by omega)) 8 _ _ (by omega) (by omega) (by omega) (by omega) (by omega) (by omega), _, i64w (by omega) (by omega), _, i64w (n := (t : Int) + 1) (by omega) (by omega), 3 - (t + 1), by omega, rfl, t + 1, by omega, by omega, rfl, ?_, ?_⟩
        · have e : ((k : Int) + (t : Int)).toNat * 1 = k + t := by omega
          rw [e]; exact hk1.cell hcell
        · have hg : (l.drop k).getD t 0 = l[k + t]'hlt' := by
            rw [List.getD_eq_getElem?_getD, List.getElem?_drop, hget]; rfl
          simp only [val64, hg]; omega
        · omega
      · simp only [decide_eq_false_iff_not] at h4
        refine ⟨_, i64w (n := (t : Int) + 1) (by omega) (by omega), 3 - (t + 1), by omega, rfl, t + 1, by omega, by omega, rfl, ?_, ?_⟩
        · have hg : (l.drop k).getD t 0 = 0 := by
            rw [List.getD_eq_getElem?_getD, List.getElem?_drop, List.getElem?_eq_none (by omega)]; rfl
          simp only [val64, hg]
          have : (0 : UInt8).toNat = 0 := rfl
          omega
        · omega
    · simp only [decide_eq_false_iff_not] at h3
      have ht : t = 3 := by omega
      subst ht
      have hmin : min 3 (l.length - k) = min 3 (l.drop k).length := by rw [List.length_drop]
      rw [← hmin] at hcons
      generalize hN : val64 (l.drop k) 3 = N at *
      generalize hH : min 3 (l.length - k) = H at *
      have hH3 : 1 ≤ H := by omega
      refine ⟨fun m q' n' c' j w3 => Keeps w w3 ∧ ∃ t : Nat, j = t ∧ t ≤ 4 ∧ m = 4 - t ∧ Own w.heap.size w3 q' n' c' (acc ++ quad64 N H t), ⟨4, hk1, 0, rfl, by omega, rfl, by simpa [quad64] using ho1⟩, ?_⟩
      rintro m q' n' c' j w3 ⟨hk3, t, rfl, ht4, rfl, ho3⟩
      have hql := quad64_len N H t
      refine ⟨fun h5 => ?_, fun h5 => ?_⟩
      · simp only [decide_eq_true_eq] at h5
        have fin : ∀ (b : UInt8), b = (if H < t then 61 else L64 (N / 2 ^ (18 - 6 * t) % 64)) → ∀ w4 cells, w4 = w3.alloc (.cells ⟨cells⟩ 5) → cells = bc [b] → 
            ∃ (x47 : Option Addr) (x47_n x47_c : Nat), ∃ w5, BuiltinOk prog .append #[23, 23] 23 [false, false] [.slice q' n' c', .slice (some (⟨w3.heap.size, 0, none⟩)) 1 1] w4 (.slice x47 x47_n x47_c) w5 ∧ 
                ∃ x41 : Int, IntKind.i64.wrap ((t : Int) + 1) = x41 ∧ 
                ∃ m_7, m_7 < 4 - t ∧ (Keeps w w5 ∧ ∃ t' : Nat, x41 = t' ∧ t' ≤ 4 ∧ m_7 = 4 - t' ∧ Own w.heap.size w5 x47 x47_n x47_c (acc ++ quad64 N H t')) := by
          intro b hbe w4 cells hw4 hcells
          obtain ⟨p2, n2, c2, w5, hrun, ho5, hk5, _⟩ := append_lit (bs := [b]) ho3 (Nat.le_refl _) hk3.size hk3 hw4 hcells rfl (by simp [hql]; omega) [false, false]
          refine ⟨p2, n2, c2, w5, hrun, _, i64w (by omega) (by omega), 4 - (t + 1), by omega, hk5, t + 1, by omega, by omega, rfl, ?_⟩
          simp only [quad64, ← hbe, ← List.append_assoc]
          exact ho5
        refine ⟨fun h6 w4 hw4 => ?_, fun h6 => ?_⟩
        · simp only [decide_eq_true_eq] at h6
          exact fin 61 (by rw [if_pos (by omega)]) w4 _ hw4 rfl
        · simp only [decide_eq_false_iff_not] at h6
          have hNlt : N < 16777216 := by omega
          have hsh : (18 - 6 * (t : Int)).toNat = 18 - 6 * t := by omega
          refine ⟨_, i64w (n := 6 * (t : Int)) (by omega) (by omega), _, i64w (n := 18 - 6 * (t : Int)) (by omega) (by omega), by omega, _, rfl, _, rfl, L64 (N / 2 ^ (18 - 6 * t) % 64), ?_, fun w6 hw6 => ?_⟩
          · have hm : min (18 - 6 * (t : Int)).toNat 64 = 18 - 6 * t := by omega
            rw [hm, fdiv_nat N (18 - 6 * t)]
            have hq : N / 2 ^ (18 - 6 * t) ≤ N := Nat.div_le_self _ _
            have := i64_and_nat (N / 2 ^ (18 - 6 * t)) 63 (by omega) (by decide)
            rw [show (63 : Nat) = 2 ^ 6 - 1 from rfl, Nat.and_two_pow_sub_one_eq_mod] at this
            rw [show (63 : Int) = ((2 ^ 6 - 1 : Nat) : Int) from rfl, this]
            exact ⟨by omega, L64_get _ (Nat.mod_lt _ (by decide))⟩
          · exact fin _ (by rw [if_neg (by omega)]) w6 _ hw6 rfl
      · simp only [decide_eq_false_iff_not] at h5
        have ht : t = 4 := by omega
        subst ht
        refine ⟨_, i64w (n := (k : Int) + 3) (by omega) (by omega), l.length + 3 - (k + 3), by omega, hk3, k + 3, acc ++ quad64 N H 4, by omega, by omega, rfl, ho3, ?_, ?_⟩
        · rw [List.length_append, hql]; omega
        · rw [hb, hcons, List.append_assoc]
  · simp only [decide_eq_false_iff_not] at h
    have hd : l.drop k = [] := List.drop_eq_nil_of_le (by omega)
    rw [hd, b64F_nil, List.append_nil] at hb
    exact ⟨_, w1, conv_string ho1.reads ho1.len, by rw [hb], hk1⟩
end Go.Proofs.Tryz
