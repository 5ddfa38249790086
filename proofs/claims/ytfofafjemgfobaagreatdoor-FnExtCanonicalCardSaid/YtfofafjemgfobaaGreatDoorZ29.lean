/- Parts of a proof, joined: A20, A21, VH, A22, A23, A24. -/
import Derived.Test.YtfofafjemgfobaaGreatDoorZ27
import Derived.Test.YtfofafjemgfobaaGreatDoorZ28
import Derived.Test.YtfofafjemgfobaaGreatDoorZ4
/- The shortest decimal: the small steps (only that each answers, and always the same). -/
set_option linter.unusedVariables false
namespace Go.Proofs.Tryz
open Go.Vc Go.RowKit Go.Sort

theorem u64_range (n : Int) : inU64 (IntKind.u64.wrap n) := by
  have e : IntKind.u64.wrap n = n % 18446744073709551616 := rfl
  rw [e]
  unfold inU64
  omega
theorem ret261 (u e : Int) (w : World) : Ret 261 [.int .u64 u, .int .i64 e] w (.int .u64 (IntKind.u64.wrap (u + IntKind.u64.wrap e))) :=
  Ret.of (c261 u e w _ ⟨_, rfl, _, rfl, rfl, Keeps.refl _⟩)
theorem ret262 (u : Int) (w : World) : Ret 262 [.int .u64 u] w (.int .u64 (Int.fdiv (IntKind.u64.wrap (u + 3)) (2 ^ 2))) :=
  Ret.of (c262 u w _ ⟨_, rfl, by decide, _, rfl, rfl, Keeps.refl _⟩)
theorem ret263 (u : Int) (w : World) : Ret 263 [.int .u64 u] w (.int .u64 (Int.fdiv (IntKind.u64.wrap (u + 0)) (2 ^ 2))) :=
  Ret.of (c263 u w _ ⟨_, rfl, by decide, _, rfl, rfl, Keeps.refl _⟩)
def roundF (u : Int) : Int := Int.fdiv (IntKind.u64.wrap (IntKind.u64.wrap (u + 1) + bits .and .u64 (Int.fdiv u (2 ^ 2)) 1)) (2 ^ 2)
theorem ret264 (u : Int) (w : World) : Ret 264 [.int .u64 u] w (.int .u64 (roundF u)) :=
  Ret.of (c264 u w _ ⟨_, rfl, by decide, _, rfl, _, rfl, _, rfl, by decide, _, rfl, rfl, Keeps.refl _⟩)
theorem div4_range {n : Int} (h : inU64 n) : inU64 (Int.fdiv n (2 ^ 2)) := by
  unfold inU64 at *
  rw [Int.fdiv_eq_ediv_of_nonneg _ (by decide)]
  omega
def skewF (x : Int) : Int := Int.fdiv (IntKind.i64.wrap (IntKind.i64.wrap (x * 631305) - 261663)) (2 ^ 21)
theorem ret257 (x : Int) (w : World) : Ret 257 [.int .i64 x] w (.int .i64 (skewF x)) :=
  Ret.of (c257 x w _ ⟨_, rfl, _, rfl, by decide, _, rfl, rfl, Keeps.refl _⟩)
theorem ret259 (x : Int) (w : World) : Ret 259 [.int .i64 x] w (.int .i64 (Int.fdiv (IntKind.i64.wrap (x * 108853)) (2 ^ 15))) :=
  Ret.of (c259 x w _ ⟨_, rfl, by decide, _, rfl, rfl, Keeps.refl _⟩)
theorem ret282 (b : Bool) (w : World) : Ret 282 [.bool b] w (.int .u64 (if b then 1 else 0)) := by
  refine Ret.of (c282 b w _ ?_)
  unfold VC282
  exact ⟨fun h => by rw [h]; exact ⟨rfl, Keeps.refl _⟩, fun h => by rw [h]; exact ⟨rfl, Keeps.refl _⟩⟩
theorem ret281 (x y : Int) (hx : inU64 x) (hy : inU64 y) (w : World) : Ret 281 [.int .u64 x, .int .u64 y] w (.tuple ⟨[.int .u64 ((x.toNat * y.toNat / 18446744073709551616 : Nat) : Int), .int .u64 ((x.toNat * y.toNat % 18446744073709551616 : Nat) : Int)]⟩) := by
  unfold inU64 at hx hy
  obtain ⟨a, ha⟩ : ∃ a : Nat, x = a := ⟨x.toNat, by omega⟩
  obtain ⟨b, hb⟩ : ∃ b : Nat, y = b := ⟨y.toNat, by omega⟩
  subst ha hb
  exact (bits_Mul64 a b (by omega) (by omega) w).mono fun e w' ⟨he, hw⟩ => ⟨he, by rw [hw]; exact Keeps.refl _⟩

theorem n331 : cellsOf' prog 331 = some 3 := by kernel_rfl
theorem ten_range (i : Nat) : inU64 (tenHi i) ∧ inU64 (tenLo i) := by
  have h : (Go.Pinned.pow10Rows.all fun x => decide (x.1 < 18446744073709551616) && decide (x.2 < 18446744073709551616)) = true := by decide +kernel
  unfold tenHi tenLo inU64
  cases hg : Go.Pinned.pow10Rows[i]? with
  | none => simp
  | some x =>
    have := List.all_eq_true.1 h x (List.mem_of_getElem? hg)
    simp only [Bool.and_eq_true, decide_eq_true_eq] at this
    simp only [Option.getD_some]
    omega

/-- prescale fills the scale. -/
theorem ret258 (g : Nat) (cs : List Value) (hcs : cs.length = 3) (ex p lp : Int) (w : World) (ht : Tabs w) (hv : Var w g 331 cs) (h0 : -348 ≤ p) (h1 : p < 348) (hg : g ≠ 15) :
    Calls prog 258 ⟨[.pointer (some ⟨g, 0, none⟩), .int .i64 ex, .int .i64 p, .int .i64 lp]⟩ w fun e w' => e = .returned (.tuple ⟨[]⟩) ∧ w.grownBy w' (some g) ∧
      Var w' g 331 [.int .u64 (tenHi (p + 348).toNat), .int .u64 (tenLo (p + 348).toNat), .int .i64 (IntKind.i64.wrap (0 - IntKind.i64.wrap (IntKind.i64.wrap (ex + lp) + 3)))] := by
  rcases cs with _ | ⟨a, _ | ⟨b, _ | ⟨c, _ | ⟨d, r⟩⟩⟩⟩ <;> simp at hcs
  have hi : (p + 348).toNat < 696 := by omega
  obtain ⟨t1, t2⟩ := ht.ten (p + 348).toNat hi
  have e : IntKind.i64.wrap (p - (-348)) = ((p + 348).toNat : Int) := by
    rw [i64w (by omega) (by omega)]; omega
  have := c258 ⟨g, 0, none⟩ ex p lp w (fun v w' => v = .tuple ⟨[]⟩ ∧ w.grownBy w' (some g) ∧
      Var w' g 331 [.int .u64 (tenHi (p + 348).toNat), .int .u64 (tenLo (p + 348).toNat), .int .i64 (IntKind.i64.wrap (0 - IntKind.i64.wrap (IntKind.i64.wrap (ex + lp) + 3)))]) ?_
  · exact this.mono fun e w' ⟨v, he, hv, h⟩ => ⟨by rw [he, hv], h⟩
  unfold VC258
  have a1 : ∀ j, (⟨g, 0, none⟩ : Addr).add j = ⟨g, j, none⟩ := fun j => by rw [add_at, Nat.zero_add]
  have b1 : ∀ j, (⟨15, 0, none⟩ : Addr).add j = ⟨15, j, none⟩ := fun j => by rw [add_at, Nat.zero_add]
  have c1 : ∀ j k, (⟨15, j, none⟩ : Addr).add k = ⟨15, j + k, none⟩ := fun j k => add_at _ _ _
  refine ⟨_, e, ⟨by omega, by omega⟩, tenHi (p + 348).toNat, by rw [b1, Int.toNat_natCast, Nat.mul_comm]; exact t1, hv.can (show 0 < 3 by decide) rfl, fun w1 hw1 => ?_⟩
  have hg1 : w.grownBy w1 (some g) := by rw [hw1]; exact setCell_grown w ⟨g, 0, none⟩ _
  have hv1 : Var w1 g 331 [.int .u64 (tenHi (p + 348).toNat), b, c] := by rw [hw1]; exact hv.set 0 _
  refine ⟨_, e, ⟨by omega, by omega⟩, tenLo (p + 348).toNat, ?_, ?_, fun w2 hw2 => ?_⟩
  · rw [b1, c1, Int.toNat_natCast, Nat.mul_comm]
    exact grown_cell hg1 (fun h => hg h.symm) t2
  · rw [a1]; exact hv1.can (show 1 < 3 by decide) rfl
  rw [a1] at hw2
  have hg2 : w.grownBy w2 (some g) := grown_trans hg1 (by rw [hw2]; exact setCell_grown w1 ⟨g, 1, none⟩ _)
  have hv2 : Var w2 g 331 [.int .u64 (tenHi (p + 348).toNat), .int .u64 (tenLo (p + 348).toNat), c] := by rw [hw2]; exact hv1.set 1 _
  refine ⟨_, rfl, _, rfl, _, rfl, ?_, fun w3 hw3 => ?_⟩
  · rw [a1]; exact hv2.can (show 2 < 3 by decide) rfl
  rw [a1] at hw3
  exact ⟨rfl, grown_trans hg2 (by rw [hw3]; exact setCell_grown w2 ⟨g, 2, none⟩ _), by rw [hw3]; exact hv2.set 2 _⟩

theorem i64_and63 (n : Int) : bits .and .i64 n 63 = n % 64 := by
  have h63 : (BitVec.ofInt 64 63).toNat = 2 ^ 6 - 1 := by decide
  have key : (BitVec.ofInt 64 n &&& BitVec.ofInt 64 63).toNat = (n % ((2 ^ 64 : Nat) : Int)).toNat % 2 ^ 6 := by
    rw [BitVec.toNat_and, BitVec.toNat_ofInt, h63, Nat.and_two_pow_sub_one_eq_mod]
  show IntKind.i64.wrap ((BitVec.ofInt 64 n &&& BitVec.ofInt 64 63).toNat : Nat) = n % 64
  rw [key, IntKind.wrap_i64]
  omega
def usF (A Bv C D s : Int) : Int :=
  if (!decide (IntKind.u64.wrap (Int.fdiv A (2 ^ (min (bits .and .i64 s 63).toNat 64)) * 2 ^ (min (bits .and .i64 s 63).toNat 64)) = A)) = true then bits .or .u64 (Int.fdiv A (2 ^ (min (bits .and .i64 s 63).toNat 64))) 1
  else bits .or .u64 (Int.fdiv (IntKind.u64.wrap (A - (if decide (Bv < C) then 1 else 0))) (2 ^ (min (bits .and .i64 s 63).toNat 64))) (if decide (1 < IntKind.u64.wrap (Bv - C)) then 1 else 0)
/-- uscale answers, whatever the world. -/
theorem ex260 (x hi lo s : Int) (hx : inU64 x) (hh : inU64 hi) (hl : inU64 lo) : ∃ v : Int, ∀ w g, Var w g 331 [.int .u64 hi, .int .u64 lo, .int .i64 s] → Ret 260 [.int .u64 x, .pointer (some ⟨g, 0, none⟩)] w (.int .u64 v) := by
  have hs : (0 : Int) ≤ bits .and .i64 s 63 := by rw [i64_and63]; omega
  have a1 : ∀ g j, (⟨g, 0, none⟩ : Addr).add j = ⟨g, j, none⟩ := fun g j => by rw [add_at, Nat.zero_add]
  generalize ha : ((x.toNat * hi.toNat / 18446744073709551616 : Nat) : Int) = A
  generalize hb : ((x.toNat * hi.toNat % 18446744073709551616 : Nat) : Int) = Bv
  generalize hc : ((x.toNat * lo.toNat / 18446744073709551616 : Nat) : Int) = C
  generalize hd : ((x.toNat * lo.toNat % 18446744073709551616 : Nat) : Int) = D
  have m1 : ∀ w, Ret 281 [.int .u64 x, .int .u64 hi] w (.tuple ⟨[.int .u64 A, .int .u64 Bv]⟩) := fun w => by rw [← ha, ← hb]; exact ret281 x hi hx hh w
  have m2 : ∀ w, Ret 281 [.int .u64 x, .int .u64 lo] w (.tuple ⟨[.int .u64 C, .int .u64 D]⟩) := fun w => by rw [← hc, ← hd]; exact ret281 x lo hx hl w
  refine ⟨usF A Bv C D s, fun w g hv => Ret.of (c260 x ⟨g, 0, none⟩ w _ ?_)⟩
  unfold VC260 usF
  refine ⟨hi, hv.lies.at 0 rfl rfl, (m1 w).go fun w1 hk1 => ⟨_, _, rfl, s, by rw [a1]; exact (hv.keeps hk1).lies.at 2 rfl rfl, _, rfl, hs, _, rfl, hs, _, rfl, fun h => ⟨hs, _, rfl, _, rfl, by rw [if_pos h], hk1⟩,
    fun h => ⟨lo, by rw [a1]; exact (hv.keeps hk1).lies.at 1 rfl rfl, ?_⟩⟩⟩
  rw [h]
  exact (m2 w1).go fun w2 hk2 => ⟨_, _, rfl, (ret282 _ w2).go fun w3 hk3 => ⟨_, rfl, _, rfl, [], trivial, hs, _, rfl, _, rfl, (ret282 _ w3.drew).go fun w4 hk4 => ⟨_, rfl, _, rfl, rfl, ((hk1.trans hk2).trans hk3).drew.trans hk4⟩⟩⟩
end Go.Proofs.Tryz
/- The shortest decimal of a number: shortFloat answers, and always the same. -/
set_option linter.unusedVariables false
namespace Go.Proofs.Tryz
open Go.Vc Go.RowKit Go.Sort

/-- The second half of the function. -/
def Half228 (m ex p min max odd : Int) (w2 : World) (R : Value → World → Prop) : Prop :=
  (∀ w3, w3 = w2.alloc (.cells ⟨[.int .u64 0, .int .u64 0, .int .i64 0]⟩ 331) → 
      Calls prog 259 ⟨[.int .i64 p]⟩ w3 fun e w4 => ∃ x100 : Int, e = .returned (.int .i64 x100) ∧ 
      Calls prog 258 ⟨[.pointer (some (⟨w2.heap.size, 0, none⟩)), .int .i64 ex, .int .i64 p, .int .i64 x100]⟩ w4 fun e w5 => e = .returned (.tuple ⟨[]⟩) ∧ 
      Calls prog 260 ⟨[.int .u64 min, .pointer (some (⟨w2.heap.size, 0, none⟩))]⟩ w5 fun e w6 => ∃ x103 : Int, e = .returned (.int .u64 x103) ∧ 
      Calls prog 261 ⟨[.int .u64 x103, .int .i64 odd]⟩ w6 fun e w7 => ∃ x105 : Int, e = .returned (.int .u64 x105) ∧ 
      Calls prog 262 ⟨[.int .u64 x105]⟩ w7 fun e w8 => ∃ x106 : Int, e = .returned (.int .u64 x106) ∧ 
      Calls prog 260 ⟨[.int .u64 max, .pointer (some (⟨w2.heap.size, 0, none⟩))]⟩ w8 fun e w9 => ∃ x108 : Int, e = .returned (.int .u64 x108) ∧ 
      ∃ x110 : Int, IntKind.i64.wrap (0 - odd) = x110 ∧ 
      Calls prog 261 ⟨[.int .u64 x108, .int .i64 x110]⟩ w9 fun e w10 => ∃ x111 : Int, e = .returned (.int .u64 x111) ∧ 
      Calls prog 263 ⟨[.int .u64 x111]⟩ w10 fun e w11 => ∃ x112 : Int, e = .returned (.int .u64 x112) ∧ 
      (10 : Int) ≠ 0 ∧ ∃ x114 : Int, IntKind.u64.wrap (Int.tdiv x112 10) = x114 ∧ 
      ∃ x116 : Int, IntKind.u64.wrap (x114 * 10) = x116 ∧ 
      (decide (x106 ≤ x116) = true →
      ∃ x121 : Int, IntKind.i64.wrap (p - 1) = x121 ∧ 
        ∃ x122 : Int, IntKind.i64.wrap (0 - x121) = x122 ∧ 
        R (.tuple ⟨[.int .u64 x114, .int .i64 x122]⟩) w11) ∧ (decide (x106 ≤ x116) = false →
      (decide (x106 < x112) = true →
        Calls prog 260 ⟨[.int .u64 m, .pointer (some (⟨w2.heap.size, 0, none⟩))]⟩ w11 fun e w12 => ∃ x128 : Int, e = .returned (.int .u64 x128) ∧ 
          Calls prog 264 ⟨[.int .u64 x128]⟩ w12 fun e w13 => ∃ x129 : Int, e = .returned (.int .u64 x129) ∧ 
          ∃ x132 : Int, IntKind.i64.wrap (0 - p) = x132 ∧ 
          R (.tuple ⟨[.int .u64 x129, .int .i64 x132]⟩) w13) ∧ (decide (x106 < x112) = false →
        ∃ x132_1 : Int, IntKind.i64.wrap (0 - p) = x132_1 ∧ 
          R (.tuple ⟨[.int .u64 x106, .int .i64 x132_1]⟩) w11))) 
def sfV (p a b c odd : Int) : Int × Int :=
  let dmin := Int.fdiv (IntKind.u64.wrap (IntKind.u64.wrap (a + IntKind.u64.wrap odd) + 3)) (2 ^ 2)
  let dmax := Int.fdiv (IntKind.u64.wrap (IntKind.u64.wrap (b + IntKind.u64.wrap (IntKind.i64.wrap (0 - odd))) + 0)) (2 ^ 2)
  let d := IntKind.u64.wrap (Int.tdiv dmax 10)
  if dmin ≤ IntKind.u64.wrap (d * 10) then (d, IntKind.i64.wrap (0 - IntKind.i64.wrap (p - 1)))
  else if dmin < dmax then (roundF c, IntKind.i64.wrap (0 - p)) else (dmin, IntKind.i64.wrap (0 - p))
theorem sfV_range (p a b c odd : Int) (h0 : -348 ≤ p) (h1 : p < 348) : inU64 (sfV p a b c odd).1 ∧ -400 ≤ (sfV p a b c odd).2 ∧ (sfV p a b c odd).2 ≤ 400 := by
  unfold sfV
  simp only []
  have e1 : IntKind.i64.wrap (0 - IntKind.i64.wrap (p - 1)) = 0 - (p - 1) := by rw [i64w (n := p - 1) (by omega) (by omega), i64w (by omega) (by omega)]
  have e2 : IntKind.i64.wrap (0 - p) = 0 - p := i64w (by omega) (by omega)
  split
  · exact ⟨u64_range _, by rw [e1]; omega, by rw [e1]; omega⟩
  split
  · exact ⟨div4_range (u64_range _), by rw [e2]; omega, by rw [e2]; omega⟩
  · exact ⟨div4_range (u64_range _), by rw [e2]; omega, by rw [e2]; omega⟩
theorem half228 (m ex p mn mx odd : Int) (hm : inU64 m) (h1 : inU64 mn) (h2 : inU64 mx) (p0 : -348 ≤ p) (p1 : p < 348) : ∃ v q : Int, inU64 v ∧ -400 ≤ q ∧ q ≤ 400 ∧
    ∀ (w2 : World) (R : Value → World → Prop), Tabs w2 → (∀ w', Keeps w2 w' → R (.tuple ⟨[.int .u64 v, .int .i64 q]⟩) w') → 15 < w2.heap.size → Half228 m ex p mn mx odd w2 R := by
  let i := (p + 348).toNat
  let lp := Int.fdiv (IntKind.i64.wrap (p * 108853)) (2 ^ 15)
  let s := IntKind.i64.wrap (0 - IntKind.i64.wrap (IntKind.i64.wrap (ex + lp) + 3))
  obtain ⟨a, ha⟩ := ex260 mn (tenHi i) (tenLo i) s h1 (ten_range i).1 (ten_range i).2
  obtain ⟨b, hb⟩ := ex260 mx (tenHi i) (tenLo i) s h2 (ten_range i).1 (ten_range i).2
  obtain ⟨c, hc⟩ := ex260 m (tenHi i) (tenLo i) s hm (ten_range i).1 (ten_range i).2
  have hr := sfV_range p a b c odd p0 p1
  refine ⟨_, _, hr.1, hr.2.1, hr.2.2, fun w2 R ht hR h15 => ?_⟩
  unfold Half228
  intro w3 hw3
  have hk3 : Keeps w2 w3 := by rw [hw3]; exact (Keeps.refl w2).alloc _
  have hv3 : Var w3 w2.heap.size 331 [.int .u64 0, .int .u64 0, .int .i64 0] := by rw [hw3]; exact var_alloc w2 _ 331
  refine (ret259 p w3).go fun w4 hk4 => ⟨_, rfl, ?_⟩
  have hk4' := hk3.trans hk4
  refine (ret258 w2.heap.size _ rfl ex p lp w4 (ht.keeps hk4') (hv3.keeps hk4) p0 p1 (by omega)).mono ?_
  rintro e w5 ⟨rfl, hg5, hv5⟩
  have hk5 : Keeps w2 w5 := Below.grown hk4' hg5 hk4'.size (fun j hj => by cases hj; omega)
  refine ⟨rfl, (ha w5 _ hv5).go fun w6 hk6 => ⟨_, rfl, (ret261 a odd w6).go fun w7 hk7 => ⟨_, rfl, (ret262 _ w7).go fun w8 hk8 => ⟨_, rfl, ?_⟩⟩⟩⟩
  have hk8' := (hk6.trans hk7).trans hk8
  refine (hb w8 _ (hv5.keeps hk8')).go fun w9 hk9 => ⟨_, rfl, _, rfl, (ret261 b _ w9).go fun w10 hk10 => ⟨_, rfl, (ret263 _ w10).go fun w11 hk11 => ⟨_, rfl, by decide, _, rfl, _, rfl, fun hd => ⟨_, rfl, _, rfl, ?_⟩, fun hd => ⟨fun hd2 => ?_, fun hd2 => ⟨_, rfl, ?_⟩⟩⟩⟩⟩
  all_goals have hk11' := ((hk8'.trans hk9).trans hk10).trans hk11
  · have := hR w11 (hk5.trans hk11')
    unfold sfV at this
    simp only [] at this
    rw [if_pos (of_decide_eq_true hd)] at this
    exact this
  · refine (hc w11 _ (hv5.keeps hk11')).go fun w12 hk12 => ⟨_, rfl, (ret264 _ w12).go fun w13 hk13 => ⟨_, rfl, _, rfl, ?_⟩⟩
    have := hR w13 (hk5.trans ((hk11'.trans hk12).trans hk13))
    unfold sfV at this
    simp only [] at this
    rw [if_neg (of_decide_eq_false hd), if_pos (of_decide_eq_true hd2)] at this
    exact this
  · have := hR w11 (hk5.trans hk11')
    unfold sfV at this
    simp only [] at this
    rw [if_neg (of_decide_eq_false hd), if_neg (of_decide_eq_false hd2)] at this
    exact this
end Go.Proofs.Tryz
set_option linter.unusedVariables false
set_option maxRecDepth 100000
namespace Go.Proofs.Tryz
open Go.Vc

/- F172: strconv.log10Pow2 -/
def VC172 (x : Int) (w : World) (R : Value → World → Prop) : Prop :=
  ∃ x4 : Int, IntKind.i64.wrap (x * 78913) = x4 ∧ 
  (0 : Int) ≤ 18 ∧ ∃ x5 : Int, Int.fdiv x4 (2 ^ 18) = x5 ∧ 
  R (.int .i64 x5) w
def an172 : Ann :=
  .seq (.reg (.text []))
  (.seq (.reg (.text []))
  .leaf)
theorem vcE172 (x : Int) (w : World) (R : Value → World → Prop) : vcFn prog f172 an172 [.int .i64 x] w R = VC172 x w R := by kernel_rfl
theorem c172 (x : Int) (w : World) (R : Value → World → Prop) (hvc : VC172 x w R) : Calls prog 172 ⟨[.int .i64 x]⟩ w fun e w' => ∃ v, e = .returned v ∧ R v w' :=
  vc_calls mixed (fn := f172) (ann := an172) (by kernel_rfl) ((vcE172 x w R).symm ▸ hvc)

/- F119: strconv.numDigits -/
def VC119 (d : Int) (w : World) (R : Value → World → Prop) : Prop :=
  Calls prog 173 ⟨[.int .u64 d]⟩ w fun e w1 => ∃ x5 : Int, e = .returned (.int .i64 x5) ∧ 
  Calls prog 172 ⟨[.int .i64 x5]⟩ w1 fun e w2 => ∃ x6 : Int, e = .returned (.int .i64 x6) ∧ 
  ((0 : Int) ≤ x6 ∧ x6 < (20 : Int)) ∧ 
  ∃ x11 : Int, w2.cell? ((⟨4, 0, none⟩ : Addr).add (x6.toNat * 1)) = some (.int .u64 x11) ∧ 
  Calls prog 174 ⟨[.bool (decide (x11 ≤ d))]⟩ w2 fun e w3 => ∃ x13 : Int, e = .returned (.int .i64 x13) ∧ 
  ∃ x14 : Int, IntKind.i64.wrap (x6 + x13) = x14 ∧ 
  R (.int .i64 x14) w3
def an119 : Ann :=
  .seq (.reg (.text []))
  (.seq (.reg (.text [.p .n, .p (.sh [.int .i64]), .p (.sh [.int .i64])]))
  (.seq (.reg (.text [.p .n, .p .n, .p .n, .p .n, .p (.sh [.int .u64]), .p .n, .p (.sh [.int .i64])]))
  .leaf))
theorem vcE119 (d : Int) (w : World) (R : Value → World → Prop) : vcFn prog f119 an119 [.int .u64 d] w R = VC119 d w R := by kernel_rfl
theorem c119 (d : Int) (w : World) (R : Value → World → Prop) (hvc : VC119 d w R) : Calls prog 119 ⟨[.int .u64 d]⟩ w fun e w' => ∃ v, e = .returned v ∧ R v w' :=
  vc_calls mixed (fn := f119) (ann := an119) (by kernel_rfl) ((vcE119 d w R).symm ▸ hvc)

/- F174: strconv.bool2[int] -/
def VC174 (b : Bool) (w : World) (R : Value → World → Prop) : Prop :=
  (b = true →
  R (.int .i64 1) w) ∧ (b = false →
  R (.int .i64 0) w)
def an174 : Ann :=
  .seq (.reg (.text []))
  (.seq (.seq (.reg (.text []))
  (.cond 1 2 (.seq (.reg (.text []))
  .leaf) .leaf))
  (.seq (.reg (.text []))
  .leaf))
theorem vcE174 (b : Bool) (w : World) (R : Value → World → Prop) : vcFn prog f174 an174 [.bool b] w R = VC174 b w R := by kernel_rfl
theorem c174 (b : Bool) (w : World) (R : Value → World → Prop) (hvc : VC174 b w R) : Calls prog 174 ⟨[.bool b]⟩ w fun e w' => ∃ v, e = .returned v ∧ R v w' :=
  vc_calls mixed (fn := f174) (ann := an174) (by kernel_rfl) ((vcE174 b w R).symm ▸ hvc)

end Go.Proofs.Tryz
/- The shortest decimal of a number: shortFloat answers, and always the same. -/
set_option linter.unusedVariables false
namespace Go.Proofs.Tryz
open Go.Vc Go.RowKit Go.Sort

theorem ret172 (x : Int) (w : World) : Ret 172 [.int .i64 x] w (.int .i64 (Int.fdiv (IntKind.i64.wrap (x * 78913)) (2 ^ 18))) :=
  Ret.of (c172 x w _ ⟨_, rfl, by decide, _, rfl, rfl, Keeps.refl _⟩)
theorem skew_range (x : Int) (h0 : -1130 ≤ x) (h1 : x ≤ 1000) : -348 ≤ IntKind.i64.wrap (0 - skewF x) ∧ IntKind.i64.wrap (0 - skewF x) < 348 := by
  unfold skewF
  rw [i64w (n := x * 631305) (by omega) (by omega), i64w (n := x * 631305 - 261663) (by omega) (by omega), Int.fdiv_eq_ediv_of_nonneg _ (by decide)]
  have e : ((2 : Int) ^ 21) = 2097152 := by decide
  rw [e, i64w (by omega) (by omega)]
  omega
theorem log_range (x : Int) (h0 : -1130 ≤ x) (h1 : x ≤ 1000) : -348 ≤ IntKind.i64.wrap (0 - Int.fdiv (IntKind.i64.wrap (x * 78913)) (2 ^ 18)) ∧ IntKind.i64.wrap (0 - Int.fdiv (IntKind.i64.wrap (x * 78913)) (2 ^ 18)) < 348 := by
  rw [i64w (n := x * 78913) (by omega) (by omega), Int.fdiv_eq_ediv_of_nonneg _ (by decide)]
  have e : ((2 : Int) ^ 18) = 262144 := by decide
  rw [e, i64w (by omega) (by omega)]
  omega
theorem ex228 (m ex : Int) (hm : inU64 m) (e0 : -1140 ≤ ex) (e1 : ex ≤ 970) : ∃ v q : Int, inU64 v ∧ -400 ≤ q ∧ q ≤ 400 ∧ ∀ w, Tabs w → 15 < w.heap.size → Ret 228 [.int .u64 m, .int .i64 ex] w (.tuple ⟨[.int .u64 v, .int .i64 q]⟩) := by
  by_cases hA : m = 9223372036854775808 ∧ -1085 < ex
  · have hp := half228 m ex (IntKind.i64.wrap (0 - skewF (ex + 11))) (IntKind.u64.wrap (m - 512)) (IntKind.u64.wrap (m + 1024)) (bits .and .i64 (IntKind.i64.wrap (Int.fdiv m (2 ^ (min (11 : Int).toNat 64)))) 1) hm (u64_range _) (u64_range _) (skew_range _ (by omega) (by omega)).1 (skew_range _ (by omega) (by omega)).2
    obtain ⟨v, q, h1, h2, h3, hrun⟩ := hp
    refine ⟨v, q, h1, h2, h3, fun w ht h15 => Ret.of (c228 m ex w _ ?_)⟩
    unfold VC228
    intro Kx hK
    refine ⟨_, rfl, fun h => absurd (of_decide_eq_true h) (by decide), fun _ => ⟨fun _ => ?_, fun h => absurd (of_decide_eq_false h) (by decide)⟩⟩
    refine hK 52 (-1085) w ⟨11, by decide, ?_⟩
    intro K1 hK1 K2 hK2
    refine ⟨fun _ => hK2 _ w ⟨fun _ => ⟨ex + 11, i64w (by omega) (by omega), (ret257 _ w).go fun w15 hk15 => ⟨_, rfl, _, rfl, 9, by decide, by decide, 512, by decide, _, rfl, 10, by decide, by decide, 1024, by decide, _, rfl, by decide, _, rfl, _, rfl, _, rfl, hK1 _ _ _ _ w15 (hrun w15 (fun u w' => u = .tuple ⟨[.int .u64 v, .int .i64 q]⟩ ∧ Keeps w w') (ht.keeps hk15) (fun w' hk' => ⟨rfl, hk15.trans hk'⟩) (by have := hk15.size; omega))⟩⟩, fun h => absurd (of_decide_eq_false h) (by simpa using hA.2)⟩, fun h => absurd hA.1 (of_decide_eq_false h)⟩
  · by_cases hB : -1085 ≤ ex
    · have hp := half228 m ex (IntKind.i64.wrap (0 - Int.fdiv (IntKind.i64.wrap ((ex + 11) * 78913)) (2 ^ 18))) (IntKind.u64.wrap (m - 1024)) (IntKind.u64.wrap (m + 1024)) (bits .and .i64 (IntKind.i64.wrap (Int.fdiv m (2 ^ (min (11 : Int).toNat 64)))) 1) hm (u64_range _) (u64_range _) (log_range _ (by omega) (by omega)).1 (log_range _ (by omega) (by omega)).2
      obtain ⟨v, q, h1, h2, h3, hrun⟩ := hp
      refine ⟨v, q, h1, h2, h3, fun w ht h15 => Ret.of (c228 m ex w _ ?_)⟩
      unfold VC228
      intro Kx hK
      refine ⟨_, rfl, fun h => absurd (of_decide_eq_true h) (by decide), fun _ => ⟨fun _ => ?_, fun h => absurd (of_decide_eq_false h) (by decide)⟩⟩
      refine hK 52 (-1085) w ⟨11, by decide, ?_⟩
      intro K1 hK1 K2 hK2
      have key : K2 false w := hK2 false w ⟨fun h => (by cases h), fun _ => ⟨fun _ => ⟨ex + 11, i64w (by omega) (by omega), (ret172 _ w).go fun w15 hk15 => ⟨_, rfl, _, rfl, 10, by decide, by decide, 1024, by decide, _, rfl, 10, by decide, by decide, 1024, by decide, _, rfl, by decide, _, rfl, _, rfl, _, rfl,
        hK1 _ _ _ _ w15 (hrun w15 (fun u w' => u = .tuple ⟨[.int .u64 v, .int .i64 q]⟩ ∧ Keeps w w') (ht.keeps hk15) (fun w' hk' => ⟨rfl, hk15.trans hk'⟩) (by have := hk15.size; omega))⟩⟩, fun h => absurd hB (of_decide_eq_false h)⟩⟩
      refine ⟨fun h => ?_, fun _ => key⟩
      have : decide ((-1085 : Int) < ex) = false := decide_eq_false fun e => hA ⟨of_decide_eq_true h, e⟩
      rw [this]; exact key
    · let sh := 11 + (-1085 - ex)
      have hp := half228 m ex (IntKind.i64.wrap (0 - Int.fdiv (IntKind.i64.wrap ((ex + sh) * 78913)) (2 ^ 18))) (IntKind.u64.wrap (m - IntKind.u64.wrap (1 * 2 ^ (min (sh - 1).toNat 64)))) (IntKind.u64.wrap (m + IntKind.u64.wrap (1 * 2 ^ (min (sh - 1).toNat 64)))) (bits .and .i64 (IntKind.i64.wrap (Int.fdiv m (2 ^ (min sh.toNat 64)))) 1) hm (u64_range _) (u64_range _) (log_range _ (by omega) (by omega)).1 (log_range _ (by omega) (by omega)).2
      obtain ⟨v, q, h1, h2, h3, hrun⟩ := hp
      refine ⟨v, q, h1, h2, h3, fun w ht h15 => Ret.of (c228 m ex w _ ?_)⟩
      unfold VC228
      intro Kx hK
      refine ⟨_, rfl, fun h => absurd (of_decide_eq_true h) (by decide), fun _ => ⟨fun _ => ?_, fun h => absurd (of_decide_eq_false h) (by decide)⟩⟩
      refine hK 52 (-1085) w ⟨11, by decide, ?_⟩
      intro K1 hK1 K2 hK2
      have key : K2 false w := hK2 false w ⟨fun h => (by cases h), fun _ => ⟨fun h => absurd (of_decide_eq_true h) hB, fun _ => ⟨-1085 - ex, i64w (by omega) (by omega), sh, i64w (by omega) (by omega), ex + sh, i64w (by omega) (by omega), (ret172 _ w).go fun w15 hk15 => ⟨_, rfl, _, rfl, sh - 1, i64w (by omega) (by omega), by omega, _, rfl, _, rfl, sh - 1, i64w (by omega) (by omega), by omega, _, rfl, _, rfl, by omega, _, rfl, _, rfl, _, rfl,
        hK1 _ _ _ _ w15 (hrun w15 (fun u w' => u = .tuple ⟨[.int .u64 v, .int .i64 q]⟩ ∧ Keeps w w') (ht.keeps hk15) (fun w' hk' => ⟨rfl, hk15.trans hk'⟩) (by have := hk15.size; omega))⟩⟩⟩⟩
      refine ⟨fun h => ?_, fun _ => key⟩
      have : decide ((-1085 : Int) < ex) = false := decide_eq_false fun e => hA ⟨of_decide_eq_true h, e⟩
      rw [this]; exact key
end Go.Proofs.Tryz
/- The digits of the shortest decimal: how many, and where they are written. -/
set_option linter.unusedVariables false
namespace Go.Proofs.Tryz
open Go.Vc Go.RowKit Go.Sort

theorem gpow : prog.globalNamed "internal/strconv.uint64pow10" = some 4 := by kernel_rfl
/-- numDigits, also of zero. -/
theorem ex119 (u : Nat) (hu : u < 18446744073709551616) : ∃ nd : Nat, nd ≤ 20 ∧ u < 10 ^ nd ∧ ∀ w, Tabs w → Ret 119 [.int .u64 (u : Int)] w (.int .i64 (nd : Int)) := by
  by_cases h0 : u = 0
  · subst h0
    refine ⟨0, by decide, by decide, fun w ht => Ret.of (c119 _ w _ ?_)⟩
    unfold VC119
    refine (bits_Len64 0 w (by decide) (by decide)).mono ?_
    rintro e w1 ⟨rfl, rfl⟩
    refine ⟨0, rfl, ?_⟩
    refine (ret172 0 w1).go fun w2 hk2 => ⟨_, rfl, ?_⟩
    have hcell := (ht.keeps hk2).pow.cell gpow 0 (by decide)
    refine ⟨by decide, 1, hcell, ?_⟩
    refine (internal_strconv_bool2_int _ w2).mono ?_
    rintro e w3 ⟨rfl, rfl⟩
    exact ⟨_, rfl, _, rfl, rfl, hk2⟩
  · refine ⟨Lib.nDigits u, Lib.nDigits_le20 u hu, ?_, fun w ht => ?_⟩
    · exact (decF_len u (Lib.nDigits u) (Lib.nDigits_pos u)).1 (by rw [← decF_dig, Lib.decDigits_length]; exact Nat.le_refl _)
    · exact (internal_strconv_numDigits u (by omega) hu w ht.pow).mono fun e w' ⟨he, hw⟩ => ⟨he, by rw [hw]; exact Keeps.refl _⟩
end Go.Proofs.Tryz
/- The digits of the shortest decimal, written into a row (setDigits). -/
set_option linter.unusedVariables false
namespace Go.Proofs.Tryz
open Go.Vc Go.RowKit Go.Sort

theorem grownBy_putRow {α : Type} [Inhabited α] (enc : α → Value) (w : World) (g n : Nat) (d : Array α) : w.grownBy ((putRow enc w g 0 d).drewN n) (some g) := by
  refine ⟨rfl, rfl, rfl, by simp [World.drewN], fun k hk hne => ?_⟩
  have : g ≠ k := fun e => hne (by rw [e])
  simp [World.drewN, putRow, mapBlock, Array.getElem?_modify, this]

theorem var_putRow {α : Type} [Inhabited α] (enc : α → Value) {w : World} {g t : Nat} {cs : List Value} (h : Var w g t cs) (n o : Nat) (d : Array α) : ∃ cs', Var ((putRow enc w g o d).drewN n) g t cs' := by
  unfold Var at *
  refine ⟨(putCells enc o d ⟨cs⟩).toList, ?_⟩
  show (w.heap.modify g (onCells (putCells enc o d)))[g]? = _
  rw [Array.getElem?_modify, h]
  simp [onCells]
/-- The digits of a number, a given count of them. -/
def digN (u nd : Nat) : List UInt8 := (List.range nd).map fun t => Lib.dg u (nd - 1 - t)
/-- How many are left without the noughts at the end. -/
def trimN (l : List UInt8) : Nat → Nat
  | 0 => 0
  | k + 1 => if l[k]? = some 48 then trimN l k else k + 1
theorem trimN_le (l : List UInt8) : ∀ k, trimN l k ≤ k
  | 0 => Nat.le_refl _
  | k + 1 => by unfold trimN; have := trimN_le l k; split <;> omega
theorem digN_len (u nd : Nat) : (digN u nd).length = nd := by simp [digN]

def zb : Value := .int .u8 0
theorem ret223 (u nd : Nat) (p : Int) (hu : u < 18446744073709551616) (hnd : nd ≤ 20) (hlt : u < 10 ^ nd) (p0 : -400 ≤ p) (p1 : p ≤ 400) (w : World) (g t : Nat) (hv : Var w g t (List.replicate 32 zb)) :
    Calls prog 223 ⟨[.slice (some ⟨g, 0, none⟩) 32 32, .int .u64 (u : Int), .int .i64 p, .int .i64 (nd : Int)]⟩ w fun e w' =>
      e = .returned (.tuple ⟨[.int .i64 ((nd : Int) + p), .int .i64 (trimN (digN u nd) nd : Nat)]⟩) ∧ w.grownBy w' (some g) ∧ ReadsB w' (some ⟨g, 0, none⟩) (digN u nd) ∧ ∃ cs', Var w' g t cs' := by
  have := c223 (some ⟨g, 0, none⟩) 32 32 (u : Int) p (nd : Int) w (fun v w' => v = .tuple ⟨[.int .i64 ((nd : Int) + p), .int .i64 (trimN (digN u nd) nd : Nat)]⟩ ∧ w.grownBy w' (some g) ∧ ReadsB w' (some ⟨g, 0, none⟩) (digN u nd) ∧ ∃ cs', Var w' g t cs') ?_
  · exact this.mono fun e w' ⟨v, he, hv, h⟩ => ⟨by rw [he, hv], h⟩
  unfold VC223
  refine ⟨fun _ => ⟨⟨by omega, by omega⟩, ?_⟩, fun h => absurd (of_decide_eq_false h) (by omega)⟩
  have etn : ((nd : Nat) : Int).toNat = nd := rfl
  rw [etn]
  have hH : Holds (fun (b : UInt8) => Value.int .u8 (b.toNat : Int)) w g 0 (Array.replicate nd (0 : UInt8)) := by
    intro j hj
    have hj' : j < nd := by simpa using hj
    have hc := hv.lies j zb (by rw [List.getElem?_replicate]; simp; omega)
    refine ⟨?_, ?_⟩
    · rw [hc, getElem!_pos _ j hj]; simp [zb]
    · simp [World.frozen?, show w.heap[g]? = _ from hv]
  have hsz : (Array.replicate nd (0 : UInt8)).size = nd := by simp
  have hcall := internal_strconv_formatBase10 g 0 32 u (Array.replicate nd (0 : UInt8)) w hH (by rw [hsz]; exact hlt) hu (by rw [hsz]; omega)
  rw [hsz] at hcall
  refine hcall.mono ?_
  rintro e w1 ⟨rfl, m, v', dk, hw1, hinv⟩
  have hg1 : w.grownBy w1 (some g) := by rw [hw1]; exact grownBy_putRow _ w g m dk
  have hdks : dk.size = nd := hinv.size
  have hvv : ∃ cs', Var w1 g t cs' := by rw [hw1]; exact var_putRow _ hv m 0 dk
  have hr : ReadsB w1 (some ⟨g, 0, none⟩) (digN u nd) := by
    intro j b hj
    have hjl : j < nd := by have := (List.getElem?_eq_some_iff.1 hj).1; rwa [digN_len] at this
    refine ⟨_, rfl, ?_⟩
    rw [add_at, hw1]
    have hc := cell?_putRow (fun (b : UInt8) => Value.int .u8 (b.toNat : Int)) w g 0 (Array.replicate nd (0 : UInt8)) dk hH (by rw [hdks]; simp) j (by omega)
    have hd := hinv.done j (by omega) hjl
    have hb : b = dk[j]! := by
      rw [hd]
      simp only [digN, List.getElem?_map, List.getElem?_range hjl, Option.map_some, Option.some.injEq] at hj
      exact hj.symm
    rw [hb]
    exact hc
  refine ⟨rfl, _, i64w (by omega) (by omega), fun m' i w2 => w2 = w1 ∧ ∃ k : Nat, i = k ∧ k ≤ nd ∧ m' = k ∧ trimN (digN u nd) nd = trimN (digN u nd) k, ⟨nd, rfl, nd, rfl, Nat.le_refl _, rfl, rfl⟩, ?_⟩
  rintro m' i w2 ⟨rfl, k, rfl, hk, rfl, htr⟩
  refine ⟨fun h => ?_, fun h => ?_⟩
  · have h := of_decide_eq_true h
    obtain ⟨j, rfl⟩ : ∃ j, m' = j + 1 := ⟨m' - 1, by omega⟩
    have ej : IntKind.i64.wrap (((j + 1 : Nat) : Int) - 1) = (j : Int) := by rw [i64w (by omega) (by omega)]; omega
    have hjl : j < (digN u nd).length := by rw [digN_len]; omega
    have hget := List.getElem?_eq_getElem hjl
    obtain ⟨a, ha, hc⟩ := hr j _ hget
    cases ha
    refine ⟨_, ej, ⟨by omega, by omega⟩, _, rfl, _, by rw [Int.toNat_natCast, Nat.mul_one]; exact hc, fun h48 => ⟨_, ej, j, by omega, rfl, j, rfl, by omega, rfl, ?_⟩, fun h48 => ⟨?_, hg1, hr, hvv⟩⟩
    · have e48 : (digN u nd)[j] = 48 := (u8_eq_iff _ 48 (by decide)).1 (of_decide_eq_true h48)
      rw [htr]
      show (if (digN u nd)[j]? = some 48 then trimN (digN u nd) j else j + 1) = _
      rw [hget, e48]; rfl
    · have n48 : ¬ (digN u nd)[j] = 48 := fun e => of_decide_eq_false h48 ((u8_eq_iff _ 48 (by decide)).2 e)
      have : trimN (digN u nd) nd = j + 1 := by
        rw [htr]
        show (if (digN u nd)[j]? = some 48 then trimN (digN u nd) j else j + 1) = _
        rw [hget, if_neg (fun e => n48 (Option.some.inj e))]
      rw [this]
  · have h := of_decide_eq_false h
    have hk0 : m' = 0 := by omega
    subst hk0
    refine ⟨?_, hg1, hr, hvv⟩
    rw [htr]; rfl
end Go.Proofs.Tryz
