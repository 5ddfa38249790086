/- Parts of a proof, joined: A21, VH, A22, A23, A24, A25. -/
import Derived.Test.YtfofafjemgfobaaGreatDoorX32
import Derived.Test.YtfofafjemgfobaaGreatDoorX4
set_option linter.unusedVariables false
namespace Go.Proofs.Tryz
open Go.Vc Go.RowKit Go.Sort
def Half228 (m ex p min max odd : Int) (w2 : World) (R : Value → World → Prop) : Prop :=
  (∀ w3, w3 = w2.alloc (.cells ⟨[.int .u64 0, .int .u64 0, .int .i64 0]⟩ 331) → 
      Calls prog 259 ⟨[.int .i64 p]⟩ w3 fun e w4 => ∃ x100 : Int, e = .returned (.int .i64 x100) ∧ 
      Calls prog 258 ⟨[.pointer (some (⟨w2.heap.size, 0, none⟩)), .int .i64 ex, .int .i64 p, .int .i64 x100]⟩ w4 fun e w5 => e = .returned (.tuple ⟨[]⟩) ∧ 
      Calls prog 260 ⟨[.int .u64 min, .pointer (some (⟨w2.heap.size, 0, none⟩))]⟩ w5 fun e w6 => ∃ x103 : Int, e = .returned (.int .u64 x103) ∧ 
      Calls prog 261 ⟨[.int .u64 x103, .int .i64 odd]⟩ w6 fun e w7 => ∃ x105 : Int, e = .returned (.int .u64 x105) ∧ 
      Calls prog 262 ⟨[.int .u64 x105]⟩ w7 fun e w8 => ∃ x106 : Int, e = .returned (.int .u64 x106) ∧ 
      Calls prog 260 ⟨[.int .u64 max, .pointer (some (⟨w2.heap.size, 0, none⟩))]⟩ w8 fun e w9 => ∃ x108 : Int, e = .returned (.int .u64 x108) ∧ 
      ∃ x110 : Int, IntKind.i64.wrap (0 - odd) = x110 ∧ 
      Calls prog 261 ⟨[.int .u64 x108, .int .i64 x110]⟩ w9 fun e w10 => ∃ x111 : Int, e = .returned (.int .u64 x111) ∧ 
      Calls prog 263 ⟨[.int .u64 x111]⟩ w10 fun e w11 => ∃ x112 : Int, e = .returned (.int .u64 x112) ∧ 
      (10 : Int) ≠ 0 ∧ ∃ x114 : Int, IntKind.u64.wrap (Int.tdiv x112 10) = x114 ∧ 
      ∃ x116 : Int, IntKind.u64.wrap (x114 * 10) = x116 ∧ 
      (decide (x106 ≤ x116) = true →
      ∃ x121 : Int, IntKind.i64.wrap (p - 1) = x121 ∧ 
        ∃ x122 : Int, IntKind.i64.wrap (0 - x121) = x122 ∧ 
        R (.tuple ⟨[.int .u64 x114, .int .i64 x122]⟩) w11) ∧ (decide (x106 ≤ x116) = false →
      (decide (x106 < x112) = true →
        Calls prog 260 ⟨[.int .u64 m, .pointer (some (⟨w2.heap.size, 0, none⟩))]⟩ w11 fun e w12 => ∃ x128 : Int, e = .returned (.int .u64 x128) ∧ 
          Calls prog 264 ⟨[.int .u64 x128]⟩ w12 fun e w13 => ∃ x129 : Int, e = .returned (.int .u64 x129) ∧ 
          ∃ x132 : Int, IntKind.i64.wrap (0 - p) = x132 ∧ 
          R (.tuple ⟨[.int .u64 x129, .int .i64 x132]⟩) w13) ∧ (decide (x106 < x112) = false →
        ∃ x132_1 : Int, IntKind.i64.wrap (0 - p) = x132_1 ∧ 
          R (.tuple ⟨[.int .u64 x106, .int .i64 x132_1]⟩) w11))) 
def sfV (p a b c odd : Int) : Int × Int :=
  let dmin := Int.fdiv (IntKind.u64.wrap (IntKind.u64.wrap (a + IntKind.u64.wrap odd) + 3)) (2 ^ 2)
  let dmax := Int.fdiv (IntKind.u64.wrap (IntKind.u64.wrap (b + IntKind.u64.wrap (IntKind.i64.wrap (0 - odd))) + 0)) (2 ^ 2)
  let d := IntKind.u64.wrap (Int.tdiv dmax 10)
  if dmin ≤ IntKind.u64.wrap (d * 10) then (d, IntKind.i64.wrap (0 - IntKind.i64.wrap (p - 1)))
  else if dmin < dmax then (roundF c, IntKind.i64.wrap (0 - p)) else (dmin, IntKind.i64.wrap (0 - p))
theorem sfV_range (p a b c odd : Int) (h0 : -348 ≤ p) (h1 : p < 348) : inU64 (sfV p a b c odd).1 ∧ -400 ≤ (sfV p a b c odd).2 ∧ (sfV p a b c odd).2 ≤ 400 := by
  unfold sfV
  simp only []
  have e1 : IntKind.i64.wrap (0 - IntKind.i64.wrap (p - 1)) = 0 - (p - 1) := by rw [i64w (n := p - 1) (by omega) (by omega), i64w (by omega) (by omega)]
  have e2 : IntKind.i64.wrap (0 - p) = 0 - p := i64w (by omega) (by omega)
  split
  · exact ⟨u64_range _, by rw [e1]; omega, by rw [e1]; omega⟩
  split
  · exact ⟨div4_range (u64_range _), by rw [e2]; omega, by rw [e2]; omega⟩
  · exact ⟨div4_range (u64_range _), by rw [e2]; omega, by rw [e2]; omega⟩
theorem half228 (m ex p mn mx odd : Int) (hm : inU64 m) (h1 : inU64 mn) (h2 : inU64 mx) (p0 : -348 ≤ p) (p1 : p < 348) : ∃ v q : Int, inU64 v ∧ -400 ≤ q ∧ q ≤ 400 ∧
    ∀ (w2 : World) (R : Value → World → Prop), Tabs w2 → (∀ w', Keeps w2 w' → R (.tuple ⟨[.int .u64 v, .int .i64 q]⟩) w') → 15 < w2.heap.size → Half228 m ex p mn mx odd w2 R := by
  let i := (p + 348).toNat
  let lp := Int.fdiv (IntKind.i64.wrap (p * 108853)) (2 ^ 15)
  let s := IntKind.i64.wrap (0 - IntKind.i64.wrap (IntKind.i64.wrap (ex + lp) + 3))
  obtain ⟨a, ha⟩ := ex260 mn (tenHi i) (tenLo i) s h1 (ten_range i).1 (ten_range i).2
  obtain ⟨b, hb⟩ := ex260 mx (tenHi i) (tenLo i) s h2 (ten_range i).1 (ten_range i).2
  obtain ⟨c, hc⟩ := ex260 m (tenHi i) (tenLo i) s hm (ten_range i).1 (ten_range i).2
  have hr := sfV_range p a b c odd p0 p1
  refine ⟨_, _, hr.1, hr.2.1, hr.2.2, fun w2 R ht hR h15 => ?_⟩
  unfold Half228
  intro w3 hw3
  have hk3 : Keeps w2 w3 := by rw [hw3]; exact (Keeps.refl w2).alloc _
  have hv3 : Var w3 w2.heap.size 331 [.int .u64 0, .int .u64 0, .int .i64 0] := by rw [hw3]; exact var_alloc w2 _ 331
  refine (ret259 p w3).go fun w4 hk4 => ⟨_, rfl, ?_⟩
  have hk4' := hk3.trans hk4
  refine (ret258 w2.heap.size _ rfl ex p lp w4 (ht.keeps hk4') (hv3.keeps hk4) p0 p1 (by omega)).mono ?_
  rintro e w5 ⟨rfl, hg5, hv5⟩
  have hk5 : Keeps w2 w5 := Below.grown hk4' hg5 hk4'.size (fun j hj => by cases hj; omega)
  refine ⟨rfl, (ha w5 _ hv5).go fun w6 hk6 => ⟨_, rfl, (ret261 a odd w6).go fun w7 hk7 => ⟨_, rfl, (ret262 _ w7).go fun w8 hk8 => ⟨_, rfl, ?_⟩⟩⟩⟩
  have hk8' := (hk6.trans hk7).trans hk8
  refine (hb w8 _ (hv5.keeps hk8')).go fun w9 hk9 => ⟨_, rfl, _, rfl, (ret261 b _ w9).go fun w10 hk10 => ⟨_, rfl, (ret263 _ w10).go fun w11 hk11 => ⟨_, rfl, by decide, _, rfl, _, rfl, fun hd => ⟨_, rfl, _, rfl, ?_⟩, fun hd => ⟨fun hd2 => ?_, fun hd2 => ⟨_, rfl, ?_⟩⟩⟩⟩⟩
  all_goals have hk11' := ((hk8'.trans hk9).trans hk10).trans hk11
  · have := hR w11 (hk5.trans hk11')
    unfold sfV at this
    simp only [] at this
    rw [if_pos (of_decide_eq_true hd)] at this
    exact this
  · refine (hc w11 _ (hv5.keeps hk11')).go fun w12 hk12 => ⟨_, rfl, (ret264 _ w12).go fun w13 hk13 => ⟨_, rfl, _, rfl, ?_⟩⟩
    have := hR w13 (hk5.trans ((hk11'.trans hk12).trans hk13))
    unfold sfV at this
    simp only [] at this
    rw [if_neg (of_decide_eq_false hd), if_pos (of_decide_eq_true hd2)] at this
    exact this
  · have := hR w11 (hk5.trans hk11')
    unfold sfV at this
    simp only [] at this
    rw [if_neg (of_decide_eq_false hd), if_neg (of_decide_eq_false hd2)] at this
    exact this
end Go.Proofs.Tryz
set_option linter.unusedVariables false
set_option maxRecDepth 100000
namespace Go.Proofs.Tryz
open Go.Vc
def VC172 (x : Int) (w : World) (R : RR) : Prop :=
 ∃ x4 : Int, IntKind.i64.wrap (x * 78913) = x4 ∧
 (0 : Int) ≤ 18 ∧ ∃ x5 : Int, Int.fdiv x4 (2 ^ 18) = x5 ∧
 R (.int .i64 x5) w
def an172 : Ann :=
 .k .z
 .zl
theorem c172 (x : Int) (w : World) (R : RR) (hvc : VC172 x w R) : CR 172 [.int .i64 x] w R :=
 vcc (fn := f172) (ann := an172) hvc (by kernel_rfl) (by kernel_rfl)
def VC119 (d : Int) (w : World) (R : RR) : Prop :=
 Calls prog 173 ⟨[.int .u64 d]⟩ w fun e w1 => ∃ x5 : Int, e = .returned (.int .i64 x5) ∧
 Calls prog 172 ⟨[.int .i64 x5]⟩ w1 fun e w2 => ∃ x6 : Int, e = .returned (.int .i64 x6) ∧
 ((0 : Int) ≤ x6 ∧ x6 < (20 : Int)) ∧
 ∃ x11 : Int, w2.cell? ((⟨4, 0, none⟩ : Addr).add (x6.toNat * 1)) = some (.int .u64 x11) ∧
 Calls prog 174 ⟨[.bool (decide (x11 ≤ d))]⟩ w2 fun e w3 => ∃ x13 : Int, e = .returned (.int .i64 x13) ∧
 ∃ x14 : Int, IntKind.i64.wrap (x6 + x13) = x14 ∧
 R (.int .i64 x14) w3
def an119 : Ann :=
 .k .z
 (.k (.t [.q, .s [.int .i64], .s [.int .i64]])
 (.k (.t [.q, .q, .q, .q, .s [.int .u64], .q, .s [.int .i64]])
 .l))
theorem c119 (d : Int) (w : World) (R : RR) (hvc : VC119 d w R) : CR 119 [.int .u64 d] w R :=
 vcc (fn := f119) (ann := an119) hvc (by kernel_rfl) (by kernel_rfl)
end Go.Proofs.Tryz
set_option linter.unusedVariables false
namespace Go.Proofs.Tryz
open Go.Vc Go.RowKit Go.Sort
theorem ret172 (x : Int) (w : World) : Ret 172 [.int .i64 x] w (.int .i64 (Int.fdiv (IntKind.i64.wrap (x * 78913)) (2 ^ 18))) :=
  Ret.of (c172 x w _ ⟨_, rfl, by decide, _, rfl, rfl, Keeps.refl _⟩)
theorem skew_range (x : Int) (h0 : -1130 ≤ x) (h1 : x ≤ 1000) : -348 ≤ IntKind.i64.wrap (0 - skewF x) ∧ IntKind.i64.wrap (0 - skewF x) < 348 := by
  unfold skewF
  rw [i64w (n := x * 631305) (by omega) (by omega), i64w (n := x * 631305 - 261663) (by omega) (by omega), Int.fdiv_eq_ediv_of_nonneg _ (by decide)]
  have e : ((2 : Int) ^ 21) = 2097152 := by decide
  rw [e, i64w (by omega) (by omega)]
  omega
theorem log_range (x : Int) (h0 : -1130 ≤ x) (h1 : x ≤ 1000) : -348 ≤ IntKind.i64.wrap (0 - Int.fdiv (IntKind.i64.wrap (x * 78913)) (2 ^ 18)) ∧ IntKind.i64.wrap (0 - Int.fdiv (IntKind.i64.wrap (x * 78913)) (2 ^ 18)) < 348 := by
  rw [i64w (n := x * 78913) (by omega) (by omega), Int.fdiv_eq_ediv_of_nonneg _ (by decide)]
  have e : ((2 : Int) ^ 18) = 262144 := by decide
  rw [e, i64w (by omega) (by omega)]
  omega
theorem ex228 (m ex : Int) (hm : inU64 m) (e0 : -1140 ≤ ex) (e1 : ex ≤ 970) : ∃ v q : Int, inU64 v ∧ -400 ≤ q ∧ q ≤ 400 ∧ ∀ w, Tabs w → 15 < w.heap.size → Ret 228 [.int .u64 m, .int .i64 ex] w (.tuple ⟨[.int .u64 v, .int .i64 q]⟩) := by
  by_cases hA : m = 9223372036854775808 ∧ -1085 < ex
  · have hp := half228 m ex (IntKind.i64.wrap (0 - skewF (ex + 11))) (IntKind.u64.wrap (m - 512)) (IntKind.u64.wrap (m + 1024)) (bits .and .i64 (IntKind.i64.wrap (Int.fdiv m (2 ^ (min (11 : Int).toNat 64)))) 1) hm (u64_range _) (u64_range _) (skew_range _ (by omega) (by omega)).1 (skew_range _ (by omega) (by omega)).2
    obtain ⟨v, q, h1, h2, h3, hrun⟩ := hp
    refine ⟨v, q, h1, h2, h3, fun w ht h15 => Ret.of (c228 m ex w _ ?_)⟩
    unfold VC228
    intro Kx hK
    refine ⟨_, rfl, fun h => absurd (of_decide_eq_true h) (by decide), fun _ => ⟨fun _ => ?_, fun h => absurd (of_decide_eq_false h) (by decide)⟩⟩
    refine hK 52 (-1085) w ⟨11, by decide, ?_⟩
    intro K1 hK1 K2 hK2
    refine ⟨fun _ => hK2 _ w ⟨fun _ => ⟨ex + 11, i64w (by omega) (by omega), (ret257 _ w).go fun w15 hk15 => ⟨_, rfl, _, rfl, 9, by decide, by decide, 512, by decide, _, rfl, 10, by decide, by decide, 1024, by decide, _, rfl, by decide, _, rfl, _, rfl, _, rfl, hK1 _ _ _ _ w15 (hrun w15 (fun u w' => u = .tuple ⟨[.int .u64 v, .int .i64 q]⟩ ∧ Keeps w w') (ht.keeps hk15) (fun w' hk' => ⟨rfl, hk15.trans hk'⟩) (by have := hk15.size; omega))⟩⟩, fun h => absurd (of_decide_eq_false h) (by simpa using hA.2)⟩, fun h => absurd hA.1 (of_decide_eq_false h)⟩
  · by_cases hB : -1085 ≤ ex
    · have hp := half228 m ex (IntKind.i64.wrap (0 - Int.fdiv (IntKind.i64.wrap ((ex + 11) * 78913)) (2 ^ 18))) (IntKind.u64.wrap (m - 1024)) (IntKind.u64.wrap (m + 1024)) (bits .and .i64 (IntKind.i64.wrap (Int.fdiv m (2 ^ (min (11 : Int).toNat 64)))) 1) hm (u64_range _) (u64_range _) (log_range _ (by omega) (by omega)).1 (log_range _ (by omega) (by omega)).2
      obtain ⟨v, q, h1, h2, h3, hrun⟩ := hp
      refine ⟨v, q, h1, h2, h3, fun w ht h15 => Ret.of (c228 m ex w _ ?_)⟩
      unfold VC228
      intro Kx hK
      refine ⟨_, rfl, fun h => absurd (of_decide_eq_true h) (by decide), fun _ => ⟨fun _ => ?_, fun h => absurd (of_decide_eq_false h) (by decide)⟩⟩
      refine hK 52 (-1085) w ⟨11, by decide, ?_⟩
      intro K1 hK1 K2 hK2
      have key : K2 false w := hK2 false w ⟨fun h => (by cases h), fun _ => ⟨fun _ => ⟨ex + 11, i64w (by omega) (by omega), (ret172 _ w).go fun w15 hk15 => ⟨_, rfl, _, rfl, 10, by decide, by decide, 1024, by decide, _, rfl, 10, by decide, by decide, 1024, by decide, _, rfl, by decide, _, rfl, _, rfl, _, rfl,
        hK1 _ _ _ _ w15 (hrun w15 (fun u w' => u = .tuple ⟨[.int .u64 v, .int .i64 q]⟩ ∧ Keeps w w') (ht.keeps hk15) (fun w' hk' => ⟨rfl, hk15.trans hk'⟩) (by have := hk15.size; omega))⟩⟩, fun h => absurd hB (of_decide_eq_false h)⟩⟩
      refine ⟨fun h => ?_, fun _ => key⟩
      have : decide ((-1085 : Int) < ex) = false := decide_eq_false fun e => hA ⟨of_decide_eq_true h, e⟩
      rw [this]; exact key
    · let sh := 11 + (-1085 - ex)
      have hp := half228 m ex (IntKind.i64.wrap (0 - Int.fdiv (IntKind.i64.wrap ((ex + sh) * 78913)) (2 ^ 18))) (IntKind.u64.wrap (m - IntKind.u64.wrap (1 * 2 ^ (min (sh - 1).toNat 64)))) (IntKind.u64.wrap (m + IntKind.u64.wrap (1 * 2 ^ (min (sh - 1).toNat 64)))) (bits .and .i64 (IntKind.i64.wrap (Int.fdiv m (2 ^ (min sh.toNat 64)))) 1) hm (u64_range _) (u64_range _) (log_range _ (by omega) (by omega)).1 (log_range _ (by omega) (by omega)).2
      obtain ⟨v, q, h1, h2, h3, hrun⟩ := hp
      refine ⟨v, q, h1, h2, h3, fun w ht h15 => Ret.of (c228 m ex w _ ?_)⟩
      unfold VC228
      intro Kx hK
      refine ⟨_, rfl, fun h => absurd (of_decide_eq_true h) (by decide), fun _ => ⟨fun _ => ?_, fun h => absurd (of_decide_eq_false h) (by decide)⟩⟩
      refine hK 52 (-1085) w ⟨11, by decide, ?_⟩
      intro K1 hK1 K2 hK2
      have key : K2 false w := hK2 false w ⟨fun h => (by cases h), fun _ => ⟨fun h => absurd (of_decide_eq_true h) hB, fun _ => ⟨-1085 - ex, i64w (by omega) (by omega), sh, i64w (by omega) (by omega), ex + sh, i64w (by omega) (by omega), (ret172 _ w).go fun w15 hk15 => ⟨_, rfl, _, rfl, sh - 1, i64w (by omega) (by omega), by omega, _, rfl, _, rfl, sh - 1, i64w (by omega) (by omega), by omega, _, rfl, _, rfl, by omega, _, rfl, _, rfl, _, rfl,
        hK1 _ _ _ _ w15 (hrun w15 (fun u w' => u = .tuple ⟨[.int .u64 v, .int .i64 q]⟩ ∧ Keeps w w') (ht.keeps hk15) (fun w' hk' => ⟨rfl, hk15.trans hk'⟩) (by have := hk15.size; omega))⟩⟩⟩⟩
      refine ⟨fun h => ?_, fun _ => key⟩
      have : decide ((-1085 : Int) < ex) = false := decide_eq_false fun e => hA ⟨of_decide_eq_true h, e⟩
      rw [this]; exact key
theorem gpow : prog.globalNamed "internal/strconv.uint64pow10" = some 4 := by kernel_rfl
theorem ex119 (u : Nat) (hu : u < 18446744073709551616) : ∃ nd : Nat, nd ≤ 20 ∧ u < 10 ^ nd ∧ ∀ w, Tabs w → Ret 119 [.int .u64 (u : Int)] w (.int .i64 (nd : Int)) := by
  by_cases h0 : u = 0
  · subst h0
    refine ⟨0, by decide, by decide, fun w ht => Ret.of (c119 _ w _ ?_)⟩
    unfold VC119
    refine (bits_Len64 0 w (by decide) (by decide)).mono ?_
    rintro e w1 ⟨rfl, rfl⟩
    refine ⟨0, rfl, ?_⟩
    refine (ret172 0 w1).go fun w2 hk2 => ⟨_, rfl, ?_⟩
    have hcell := (ht.keeps hk2).pow.cell gpow 0 (by decide)
    refine ⟨by decide, 1, hcell, ?_⟩
    refine (internal_strconv_bool2_int _ w2).mono ?_
    rintro e w3 ⟨rfl, rfl⟩
    exact ⟨_, rfl, _, rfl, rfl, hk2⟩
  · refine ⟨Lib.nDigits u, Lib.nDigits_le20 u hu, ?_, fun w ht => ?_⟩
    · exact (decF_len u (Lib.nDigits u) (Lib.nDigits_pos u)).1 (by rw [← decF_dig, Lib.decDigits_length]; exact Nat.le_refl _)
    · exact (internal_strconv_numDigits u (by omega) hu w ht.pow).mono fun e w' ⟨he, hw⟩ => ⟨he, by rw [hw]; exact Keeps.refl _⟩
theorem grownBy_putRow {α : Type} [Inhabited α] (enc : α → Value) (w : World) (g n : Nat) (d : Array α) : w.grownBy ((putRow enc w g 0 d).drewN n) (some g) := by
  refine ⟨rfl, rfl, rfl, by simp [World.drewN], fun k hk hne => ?_⟩
  have : g ≠ k := fun e => hne (by rw [e])
  simp [World.drewN, putRow, mapBlock, Array.getElem?_modify, this]
theorem var_putRow {α : Type} [Inhabited α] (enc : α → Value) {w : World} {g t : Nat} {cs : List Value} (h : Var w g t cs) (n o : Nat) (d : Array α) : ∃ cs', Var ((putRow enc w g o d).drewN n) g t cs' := by
  unfold Var at *
  refine ⟨(putCells enc o d ⟨cs⟩).toList, ?_⟩
  show (w.heap.modify g (onCells (putCells enc o d)))[g]? = _
  rw [Array.getElem?_modify, h]
  simp [onCells]
def digN (u nd : Nat) : List UInt8 := (List.range nd).map fun t => Lib.dg u (nd - 1 - t)
def trimN (l : List UInt8) : Nat → Nat
  | 0 => 0
  | k + 1 => if l[k]? = some 48 then trimN l k else k + 1
theorem trimN_le (l : List UInt8) : ∀ k, trimN l k ≤ k
  | 0 => Nat.le_refl _
  | k + 1 => by unfold trimN; have := trimN_le l k; split <;> omega
theorem digN_len (u nd : Nat) : (digN u nd).length = nd := by simp [digN]
def zb : Value := .int .u8 0
theorem ret223 (u nd : Nat) (p : Int) (hu : u < 18446744073709551616) (hnd : nd ≤ 20) (hlt : u < 10 ^ nd) (p0 : -400 ≤ p) (p1 : p ≤ 400) (w : World) (g t : Nat) (hv : Var w g t (List.replicate 32 zb)) :
    Calls prog 223 ⟨[.slice (some ⟨g, 0, none⟩) 32 32, .int .u64 (u : Int), .int .i64 p, .int .i64 (nd : Int)]⟩ w fun e w' =>
      e = .returned (.tuple ⟨[.int .i64 ((nd : Int) + p), .int .i64 (trimN (digN u nd) nd : Nat)]⟩) ∧ w.grownBy w' (some g) ∧ ReadsB w' (some ⟨g, 0, none⟩) (digN u nd) ∧ ∃ cs', Var w' g t cs' := by
  have := c223 (some ⟨g, 0, none⟩) 32 32 (u : Int) p (nd : Int) w (fun v w' => v = .tuple ⟨[.int .i64 ((nd : Int) + p), .int .i64 (trimN (digN u nd) nd : Nat)]⟩ ∧ w.grownBy w' (some g) ∧ ReadsB w' (some ⟨g, 0, none⟩) (digN u nd) ∧ ∃ cs', Var w' g t cs') ?_
  · exact this.mono fun e w' ⟨v, he, hv, h⟩ => ⟨by rw [he, hv], h⟩
  unfold VC223
  refine ⟨fun _ => ⟨⟨by omega, by omega⟩, ?_⟩, fun h => absurd (of_decide_eq_false h) (by omega)⟩
  have etn : ((nd : Nat) : Int).toNat = nd := rfl
  rw [etn]
  have hH : Holds (fun (b : UInt8) => Value.int .u8 (b.toNat : Int)) w g 0 (Array.replicate nd (0 : UInt8)) := by
    intro j hj
    have hj' : j < nd := by simpa using hj
    have hc := hv.lies j zb (by rw [List.getElem?_replicate]; simp; omega)
    refine ⟨?_, ?_⟩
    · rw [hc, getElem!_pos _ j hj]; simp [zb]
    · simp [World.frozen?, show w.heap[g]? = _ from hv]
  have hsz : (Array.replicate nd (0 : UInt8)).size = nd := by simp
  have hcall := internal_strconv_formatBase10 g 0 32 u (Array.replicate nd (0 : UInt8)) w hH (by rw [hsz]; exact hlt) hu (by rw [hsz]; omega)
  rw [hsz] at hcall
  refine hcall.mono ?_
  rintro e w1 ⟨rfl, m, v', dk, hw1, hinv⟩
  have hg1 : w.grownBy w1 (some g) := by rw [hw1]; exact grownBy_putRow _ w g m dk
  have hdks : dk.size = nd := hinv.size
  have hvv : ∃ cs', Var w1 g t cs' := by rw [hw1]; exact var_putRow _ hv m 0 dk
  have hr : ReadsB w1 (some ⟨g, 0, none⟩) (digN u nd) := by
    intro j b hj
    have hjl : j < nd := by have := (List.getElem?_eq_some_iff.1 hj).1; rwa [digN_len] at this
    refine ⟨_, rfl, ?_⟩
    rw [add_at, hw1]
    have hc := cell?_putRow (fun (b : UInt8) => Value.int .u8 (b.toNat : Int)) w g 0 (Array.replicate nd (0 : UInt8)) dk hH (by rw [hdks]; simp) j (by omega)
    have hd := hinv.done j (by omega) hjl
    have hb : b = dk[j]! := by
      rw [hd]
      simp only [digN, List.getElem?_map, List.getElem?_range hjl, Option.map_some, Option.some.injEq] at hj
      exact hj.symm
    rw [hb]
    exact hc
  refine ⟨rfl, _, i64w (by omega) (by omega), fun m' i w2 => w2 = w1 ∧ ∃ k : Nat, i = k ∧ k ≤ nd ∧ m' = k ∧ trimN (digN u nd) nd = trimN (digN u nd) k, ⟨nd, rfl, nd, rfl, Nat.le_refl _, rfl, rfl⟩, ?_⟩
  rintro m' i w2 ⟨rfl, k, rfl, hk, rfl, htr⟩
  refine ⟨fun h => ?_, fun h => ?_⟩
  · have h := of_decide_eq_true h
    obtain ⟨j, rfl⟩ : ∃ j, m' = j + 1 := ⟨m' - 1, by omega⟩
    have ej : IntKind.i64.wrap (((j + 1 : Nat) : Int) - 1) = (j : Int) := by rw [i64w (by omega) (by omega)]; omega
    have hjl : j < (digN u nd).length := by rw [digN_len]; omega
    have hget := List.getElem?_eq_getElem hjl
    obtain ⟨a, ha, hc⟩ := hr j _ hget
    cases ha
    refine ⟨_, ej, ⟨by omega, by omega⟩, _, rfl, _, by rw [Int.toNat_natCast, Nat.mul_one]; exact hc, fun h48 => ⟨_, ej, j, by omega, rfl, j, rfl, by omega, rfl, ?_⟩, fun h48 => ⟨?_, hg1, hr, hvv⟩⟩
    · have e48 : (digN u nd)[j] = 48 := (u8_eq_iff _ 48 (by decide)).1 (of_decide_eq_true h48)
      rw [htr]
      show (if (digN u nd)[j]? = some 48 then trimN (digN u nd) j else j + 1) = _
      rw [hget, e48]; rfl
    · have n48 : ¬ (digN u nd)[j] = 48 := fun e => of_decide_eq_false h48 ((u8_eq_iff _ 48 (by decide)).2 e)
      have : trimN (digN u nd) nd = j + 1 := by
        rw [htr]
        show (if (digN u nd)[j]? = some 48 then trimN (digN u nd) j else j + 1) = _
        rw [hget, if_neg (fun e => n48 (Option.some.inj e))]
      rw [this]
  · have h := of_decide_eq_false h
    have hk0 : m' = 0 := by omega
    subst hk0
    refine ⟨?_, hg1, hr, hvv⟩
    rw [htr]; rfl
def e8 (x : Int) : UInt8 := UInt8.ofNat (IntKind.u8.wrap x).toNat
theorem e8_val (x : Int) : Value.int .u8 (IntKind.u8.wrap x) = .int .u8 ((e8 x).toNat : Int) := by
  have e : IntKind.u8.wrap x = x % 256 := rfl
  unfold e8
  rw [e, u8_toNat_ofNat _ (by omega), Int.toNat_of_nonneg (by omega)]
def Src (w : World) (s : Option Addr) (l : List UInt8) : Prop := l = [] ∨ ∃ (g t : Nat) (cs : List Value), t ≠ 5 ∧ s = some ⟨g, 0, none⟩ ∧ Var w g t cs ∧ ∀ (j : Nat) (b : UInt8), l[j]? = some b → cs[j]? = some (Value.int .u8 (b.toNat : Int))
theorem Src.tagd {w w' : World} {s : Option Addr} {l : List UInt8} (h : Src w s l) (k : Tagd w w') : Src w' s l := by
  rcases h with h | ⟨g, t, cs, ht, hs, hv, hl⟩
  · exact .inl h
  · exact .inr ⟨g, t, cs, ht, hs, k g t cs ht hv, hl⟩
theorem Src.cell {w : World} {s : Option Addr} {l : List UInt8} (h : Src w s l) {j : Nat} {b : UInt8} (hj : l[j]? = some b) : ∃ g, s = some ⟨g, 0, none⟩ ∧ w.cell? ⟨g, j, none⟩ = some (.int .u8 (b.toNat : Int)) := by
  rcases h with h | ⟨g, t, cs, ht, hs, hv, hl⟩
  · rw [h] at hj; simp at hj
  · exact ⟨g, hs, hv.lies.at j (hl j b hj) (Nat.zero_add j).symm⟩
theorem Src.of {w : World} {g t : Nat} {cs : List Value} {l : List UInt8} (hv : Var w g t cs) (ht : t ≠ 5) (hr : ReadsB w (some ⟨g, 0, none⟩) l) : Src w (some ⟨g, 0, none⟩) l := by
  refine Or.inr ⟨g, t, cs, ht, rfl, hv, fun j b hj => ?_⟩
  have := hr.at hj
  rw [add_at, cell_of_row _ g (0 + j) ⟨cs⟩ t (0, 0) hv] at this
  simpa using this
def signF (neg : Bool) : List UInt8 := if neg then [45] else []
def expF (e : Int) : List UInt8 :=
  if e < 10 then [48, e8 (IntKind.u8.wrap e + 48)]
  else if e < 100 then [e8 (IntKind.u8.wrap (IntKind.i64.wrap (Int.tdiv e 10)) + 48), e8 (IntKind.u8.wrap (Int.tmod e 10) + 48)]
  else [e8 (IntKind.u8.wrap (IntKind.i64.wrap (Int.tdiv e 100)) + 48), e8 (Int.tmod (IntKind.u8.wrap (IntKind.i64.wrap (Int.tdiv e 10))) 10 + 48), e8 (IntKind.u8.wrap (Int.tmod e 10) + 48)]
def midE (l : List UInt8) (nd : Nat) (prec : Int) : List UInt8 :=
  if 0 < prec then
    (let m : Int := if prec + 1 < nd then prec + 1 else nd
    if 1 < m then [46] ++ (l.drop 1).take (m.toNat - 1) ++ List.replicate (prec + 1 - m).toNat 48 else [46] ++ List.replicate prec.toNat 48)
  else []
def exE (dp : Int) (nd : Nat) : Int := if nd = 0 then 0 else dp - 1
def eF (neg : Bool) (l : List UInt8) (dp : Int) (nd : Nat) (prec fmt : Int) : List UInt8 :=
  signF neg ++ [if nd = 0 then 48 else l.headD 0] ++ midE l nd prec ++ [e8 fmt] ++ (if exE dp nd < 0 then 45 :: expF (0 - exE dp nd) else 43 :: expF (exE dp nd))
def intF (l : List UInt8) (dp : Int) (nd : Nat) : List UInt8 :=
  if 0 < dp then
    (let m : Int := if dp < nd then dp else nd
    l.take m.toNat ++ List.replicate (dp - m).toNat 48)
  else [48]
def fracF (l : List UInt8) (dp : Int) (nd : Nat) (prec : Int) : List UInt8 :=
  if 0 < prec then
    (let z : Int := if 0 - dp > 0 then 0 - dp else 0
    let lz : Int := if z < prec then z else prec
    let r : Int := if (nd : Int) - (dp + lz) > 0 then nd - (dp + lz) else 0
    let m : Int := if r < prec - lz then r else prec - lz
    let tz : Int := if prec - lz - m > 0 then prec - lz - m else 0
    [46] ++ List.replicate lz.toNat 48 ++ (l.drop (dp + lz).toNat).take m.toNat ++ List.replicate tz.toNat 48)
  else []
def fF (neg : Bool) (l : List UInt8) (dp : Int) (nd : Nat) (prec : Int) : List UInt8 := signF neg ++ intF l dp nd ++ fracF l dp nd prec
def efgF (neg : Bool) (l : List UInt8) (dp : Int) (nd : Nat) (prec : Int) : List UInt8 :=
  if dp - 1 < -4 ∨ 6 ≤ dp - 1 then eF neg l dp nd ((if nd < prec then (nd : Int) else prec) - 1) 69
  else fF neg l dp nd (if 0 > (if dp < prec then (nd : Int) - dp else prec - dp) then 0 else (if dp < prec then (nd : Int) - dp else prec - dp))
theorem expF_len (e : Int) : (expF e).length ≤ 3 := by
  unfold expF; repeat' split
  all_goals simp
theorem zero_loop {B : Nat} {w : World} {p : Option Addr} {n c : Nat} {acc : List UInt8} (cnt : Int) (h : Own B w p n c acc) (hB : B ≤ w.heap.size) (hlen : acc.length ≤ 1000000) (hc : cnt ≤ 1000000)
    (K : Option Addr → Nat → Nat → World → Prop) (hK : ∀ p' n' c' w', Own B w' p' n' c' (acc ++ List.replicate cnt.toNat 48) → Gr B w w' → K p' n' c' w') :
    ∃ Ix : Nat → Option Addr → Nat → Nat → Int → World → Prop, (∃ m_2, Ix m_2 p n c 0 w) ∧
      ∀ m, ∀ (dst_4 : Option Addr) (dst_4_n dst_4_c : Nat), ∀ x114 : Int, ∀ w23, Ix m dst_4 dst_4_n dst_4_c x114 w23 →
      (decide (x114 < cnt) = true → ∀ w24, w24 = w23.alloc (.cells ⟨[.int .u8 48]⟩ 5) → 
        ∃ (x118 : Option Addr) (x118_n x118_c : Nat), ∃ w25, BuiltinOk prog .append #[23, 23] 23 [false, false] [.slice dst_4 dst_4_n dst_4_c, .slice (some (⟨w23.heap.size, 0, none⟩)) 1 1] w24 (.slice x118 x118_n x118_c) w25 ∧ 
        ∃ x119 : Int, IntKind.i64.wrap (x114 + 1) = x119 ∧ ∃ m_1, m_1 < m ∧ Ix m_1 x118 x118_n x118_c x119 w25) ∧
      (decide (x114 < cnt) = false → K dst_4 dst_4_n dst_4_c w23) := by
  refine ⟨fun m p' n' c' i w' => Gr B w w' ∧ ∃ k : Nat, i = k ∧ k ≤ cnt.toNat ∧ m = cnt.toNat - k ∧ Own B w' p' n' c' (acc ++ List.replicate k 48), ⟨cnt.toNat, Gr.refl _ _, 0, rfl, by omega, rfl, by simpa using h⟩, ?_⟩
  rintro m p' n' c' i w' ⟨hg, k, rfl, hk, rfl, ho⟩
  refine ⟨fun hlt w2 hw2 => ?_, fun hge => ?_⟩
  · have hlt := of_decide_eq_true hlt
    have hB' := Nat.le_trans hB hg.size
    obtain ⟨p2, n2, c2, w3, hr, ho2, hg2⟩ := append_litT (bs := [48]) ho hB' hw2 rfl rfl (by simp; omega) [false, false]
    refine ⟨p2, n2, c2, w3, hr, _, i64w (by omega) (by omega), cnt.toNat - (k + 1), by omega, hg.trans hg2, k + 1, by omega, by omega, rfl, ?_⟩
    rw [List.replicate_succ', ← List.append_assoc]; exact ho2
  · have hge := of_decide_eq_false hge
    have : k = cnt.toNat := by omega
    subst this
    exact hK _ _ _ _ ho hg
set_option maxHeartbeats 4000000 in
theorem ret221 {B : Nat} {w : World} {p : Option Addr} {n c : Nat} {acc : List UInt8} (neg : Bool) (s : Option Addr) (sn sc : Nat) (l : List UInt8) (dp : Int) (nd : Nat) (prec : Int)
    (ho : Own B w p n c acc) (hB : B ≤ w.heap.size) (hs : Src w s l) (hnd : nd ≤ l.length) (hl : l.length ≤ sn) (hsn : sn ≤ sc) (hsc : sc ≤ 100) (hacc : acc.length ≤ 1000)
    (hd0 : -400 ≤ dp) (hd1 : dp ≤ 500) (hp0 : -1 ≤ prec) (hp1 : prec ≤ 40) :
    Calls prog 221 ⟨[.slice p n c, .bool neg, .slice s sn sc, .int .i64 dp, .int .i64 nd, .int .i64 prec, .int .u8 71, .bool true]⟩ w fun e w' =>
      ∃ p' n' c', e = .returned (.slice p' n' c') ∧ Own B w' p' n' c' (acc ++ efgF neg l dp nd prec) ∧ Gr B w w' := by
  have main := c221 p n c neg s sn sc dp nd prec 71 true w (fun v w' => ∃ p' n' c', v = .slice p' n' c' ∧ Own B w' p' n' c' (acc ++ efgF neg l dp nd prec) ∧ Gr B w w') ?_
  · exact main.mono fun e w' ⟨v, he, p', n', c', hv, h⟩ => ⟨p', n', c', by rw [he, hv], h⟩
  unfold VC221
  have hsg : (signF neg).length ≤ 1 := by unfold signF; split <;> simp
  intro Kx hK
  -- the form with an exponent
  have keyE : ∀ pr : Int, -3 ≤ pr → pr ≤ 40 → efgF neg l dp nd prec = eF neg l dp nd pr 69 → Kx pr 69 w := by
    intro pr hq0 hq1 hout
    rw [hout] at hK
    refine hK pr 69 w ?_
    clear hK
    intro K1 hK1
    refine ⟨fun h => absurd (of_decide_eq_true h) (by decide), fun _ => hK1 _ _ ⟨fun _ => ?_, fun h => absurd h (by decide)⟩⟩
    clear hK1
    intro K2 hK2
    have key2 : ∀ p1 n1 c1 w3, Own B w3 p1 n1 c1 (acc ++ signF neg) → Gr B w w3 → K2 p1 n1 c1 w3 := by
      intro p1 n1 c1 w3 ho3 hg3
      refine hK2 p1 n1 c1 w3 ?_
      clear hK2
      intro K3 hK3
      have key3 : ∀ ch : UInt8, ch = (if nd = 0 then 48 else l.headD 0) → K3 (ch.toNat : Int) w3 := by
        intro ch hch
        refine hK3 _ w3 fun w5 hw5 => ?_
        clear hK3
        have hB3 := Nat.le_trans hB hg3.size
        obtain ⟨p6, n6, c6, w6, hr6, ho6, hg6⟩ := append_litT (bs := [ch]) ho3 hB3 hw5 rfl rfl (by simp; omega) [false, false]
        refine ⟨p6, n6, c6, w6, hr6, ?_⟩
        have hg6' := hg3.trans hg6
        have hB6 := Nat.le_trans hB hg6'.size
        intro K4 hK4
        have hmid : ∀ x, x = midE l nd pr → x.length ≤ 100 := by
          intro x hx
          rw [hx]; unfold midE
          simp only []
          repeat' split
          all_goals simp only [List.length_append, List.length_cons, List.length_nil, List.length_take, List.length_drop, List.length_replicate]
          all_goals omega
        have key4 : ∀ p7 n7 c7 w7, Own B w7 p7 n7 c7 (acc ++ signF neg ++ [ch] ++ midE l nd pr) → Gr B w w7 → K4 p7 n7 c7 w7 := by
          intro p7 n7 c7 w7 ho7 hg7
          refine hK4 p7 n7 c7 w7 fun w8 hw8 => ?_
          clear hK4
          have hml := hmid _ rfl
          have hB7 := Nat.le_trans hB hg7.size
          obtain ⟨p9, n9, c9, w9, hr9, ho9, hg9⟩ := append_litT (bs := [e8 69]) ho7 hB7 hw8 rfl rfl (by simp; omega) [false, false]
          refine ⟨p9, n9, c9, w9, hr9, _, i64w (by omega) (by omega), ?_⟩
          have hg9' := hg7.trans hg9
          have hB9 := Nat.le_trans hB hg9'.size
          intro K5 hK5
          have key5 : ∀ ex : Int, ex = exE dp nd → K5 ex w9 := by
            intro ex hex
            have hexr : -401 ≤ ex ∧ ex ≤ 499 := by rw [hex]; unfold exE; split <;> omega
            refine hK5 ex w9 ?_
            clear hK5
            intro K6 hK6
            have key6 : ∀ (ch1 : UInt8) (e1 : Int), 0 ≤ e1 → e1 ≤ 500 → ch1 :: expF e1 = (if exE dp nd < 0 then 45 :: expF (0 - exE dp nd) else 43 :: expF (exE dp nd)) → K6 (ch1.toNat : Int) e1 w9 := by
              intro ch1 e1 he0 he1 hres
              refine hK6 _ e1 w9 fun w12 hw12 => ?_
              clear hK6
              obtain ⟨p13, n13, c13, w13, hr13, ho13, hg13⟩ := append_litT (bs := [ch1]) ho9 hB9 hw12 rfl rfl (by simp; omega) [false, false]
              refine ⟨p13, n13, c13, w13, hr13, ?_⟩
              have hg13' := hg9'.trans hg13
              have hB13 := Nat.le_trans hB hg13'.size
              have fin : ∀ (p' : Option Addr) (n' c' : Nat) (w' : World), Own B w' p' n' c' (acc ++ signF neg ++ [ch] ++ midE l nd pr ++ [e8 69] ++ [ch1] ++ expF e1) → Gr B w13 w' →
                  ∃ p'' n'' c'', Value.slice p' n' c' = .slice p'' n'' c'' ∧ Own B w' p'' n'' c'' (acc ++ eF neg l dp nd pr 69) ∧ Gr B w w' := by
                intro p' n' c' w' ho' hg'
                refine ⟨_, _, _, rfl, ?_, hg13'.trans hg'⟩
                have : acc ++ eF neg l dp nd pr 69 = acc ++ signF neg ++ [ch] ++ midE l nd pr ++ [e8 69] ++ [ch1] ++ expF e1 := by
                  unfold eF
                  rw [← hres, hch]
                  simp [List.append_assoc]
                rw [this]; exact ho'
              refine ⟨fun h10 => ?_, fun h10 => ⟨fun h100 => ?_, fun h100 => ?_⟩⟩
              · have h10 := of_decide_eq_true h10
                refine ⟨_, rfl, _, rfl, fun w14 hw14 => ?_⟩
                have he : expF e1 = [48, e8 (IntKind.u8.wrap e1 + 48)] := by unfold expF; rw [if_pos h10]
                obtain ⟨p15, n15, c15, w15, hr15, ho15, hg15⟩ := append_litT (bs := expF e1) ho13 hB13 hw14 (by rw [he, e8_val]; try rfl) (by rw [he]; try rfl) (by have := expF_len e1; simp; omega) [false, false]
                exact ⟨p15, n15, c15, w15, hr15, fin _ _ _ _ ho15 hg15⟩
              · have h10 := of_decide_eq_false h10
                have h100 := of_decide_eq_true h100
                refine ⟨by decide, _, rfl, _, rfl, _, rfl, by decide, _, rfl, _, rfl, _, rfl, fun w14 hw14 => ?_⟩
                have he : expF e1 = [e8 (IntKind.u8.wrap (IntKind.i64.wrap (Int.tdiv e1 10)) + 48), e8 (IntKind.u8.wrap (Int.tmod e1 10) + 48)] := by unfold expF; rw [if_neg h10, if_pos h100]
                obtain ⟨p15, n15, c15, w15, hr15, ho15, hg15⟩ := append_litT (bs := expF e1) ho13 hB13 hw14 (by rw [he, e8_val, e8_val]; try rfl) (by rw [he]; try rfl) (by have := expF_len e1; simp; omega) [false, false]
                exact ⟨p15, n15, c15, w15, hr15, fin _ _ _ _ ho15 hg15⟩
              · have h10 := of_decide_eq_false h10
                have h100 := of_decide_eq_false h100
                refine ⟨by decide, _, rfl, _, rfl, _, rfl, by decide, _, rfl, _, rfl, by decide, _, rfl, _, rfl, by decide, _, rfl, _, rfl, _, rfl, fun w14 hw14 => ?_⟩
                have he : expF e1 = [e8 (IntKind.u8.wrap (IntKind.i64.wrap (Int.tdiv e1 100)) + 48), e8 (Int.tmod (IntKind.u8.wrap (IntKind.i64.wrap (Int.tdiv e1 10))) 10 + 48), e8 (IntKind.u8.wrap (Int.tmod e1 10) + 48)] := by unfold expF; rw [if_neg h10, if_neg h100]
                obtain ⟨p15, n15, c15, w15, hr15, ho15, hg15⟩ := append_litT (bs := expF e1) ho13 hB13 hw14 (by rw [he, e8_val, e8_val, e8_val]; try rfl) (by rw [he]; try rfl) (by have := expF_len e1; simp; omega) [false, false]
                exact ⟨p15, n15, c15, w15, hr15, fin _ _ _ _ ho15 hg15⟩
            refine ⟨fun hneg => ?_, fun hneg => ?_⟩
            · have hneg := of_decide_eq_true hneg
              exact ⟨0 - ex, i64w (by omega) (by omega), key6 45 _ (by omega) (by omega) (by rw [← hex, if_pos hneg])⟩
            · have hneg := of_decide_eq_false hneg
              exact key6 43 _ (by omega) (by omega) (by rw [← hex, if_neg hneg])
          refine ⟨fun h0 => key5 0 ?_, fun h0 => key5 _ ?_⟩
          · have h0 := of_decide_eq_true h0
            unfold exE; rw [if_pos (by omega)]
          · have h0 := of_decide_eq_false h0
            unfold exE; rw [if_neg (by omega)]
        refine ⟨fun hpr => ?_, fun hpr => ?_⟩
        · have hpr := of_decide_eq_true hpr
          intro w20 hw20
          obtain ⟨p21, n21, c21, w21, hr21, ho21, hg21⟩ := append_litT (bs := [46]) ho6 hB6 hw20 rfl rfl (by simp; omega) [false, false]
          refine ⟨p21, n21, c21, w21, hr21, pr + 1, i64w (by omega) (by omega), _, rfl, ?_⟩
          have hg21' := hg6'.trans hg21
          have hB21 := Nat.le_trans hB hg21'.size
          intro K7 hK7
          have key7 : ∀ p22 n22 c22 (i : Int) w22 acc2, acc2.length ≤ 2000 → 1 ≤ i → i ≤ 50 → Own B w22 p22 n22 c22 acc2 → Gr B w w22 → acc2 ++ List.replicate (pr + 1 - i).toNat 48 = acc ++ signF neg ++ [ch] ++ midE l nd pr → K7 p22 n22 c22 i w22 := by
            intro p22 n22 c22 i w22 acc2 hal hi0 hi1 ho22 hg22 hacc2
            refine hK7 p22 n22 c22 i w22 ⟨pr + 1, i64w (by omega) (by omega), pr + 1 - i, i64w (by omega) (by omega), ?_⟩
            refine zero_loop (pr + 1 - i) ho22 (Nat.le_trans hB hg22.size) (by omega) (by omega) _ fun p' n' c' w' ho' hg' => ?_
            rw [hacc2] at ho'
            exact key4 p' n' c' w' ho' (hg22.trans hg')
          refine ⟨fun hm => ?_, fun hm => ?_⟩
          · have hm := of_decide_eq_true hm
            have hmn : (if pr + 1 < (nd : Int) then pr + 1 else (nd : Int)) ≤ nd := by split <;> omega
            generalize hM : (if pr + 1 < (nd : Int) then pr + 1 else (nd : Int)) = M at *
            have hM1 : M ≤ pr + 1 := by rw [← hM]; split <;> omega
            obtain ⟨b0, hb0⟩ : ∃ b, l[1]? = some b := ⟨_, List.getElem?_eq_getElem (by omega)⟩
            obtain ⟨g, hsg2, _⟩ := hs.cell hb0
            have hsl : slAddr s sc 1 1 = some ⟨g, 1, none⟩ := by
              unfold slAddr
              rw [if_neg (by omega), hsg2]
              simp [add_at]
            have hs21 := hs.tagd hg21'.tagd
            refine ⟨⟨by omega, by omega, by omega⟩, ?_⟩
            have hrd : ReadsB w21 (slAddr s sc 1 1) ((l.drop 1).take (M.toNat - 1)) := by
              intro j b hj
              refine ⟨_, hsl, ?_⟩
              rw [add_at]
              have hj' : l[1 + j]? = some b := by
                rw [List.getElem?_take] at hj
                split at hj
                · rwa [List.getElem?_drop] at hj
                · cases hj
              obtain ⟨g', hg', hcell⟩ := hs21.cell hj'
              rw [hsg2] at hg'
              cases hg'
              exact hcell
            have hlen : ((l.drop 1).take (M.toNat - 1)).length = M.toNat - 1 := by rw [List.length_take, List.length_drop]; omega
            obtain ⟨p26, n26, c26, w26, hr26, ho26, hg26⟩ := append_bytesT (c2 := sc - 1) ho21 hrd hlen.symm (fun e => by rw [hsl] at e; cases e) hB21 (by rw [hlen]; simp only [List.length_append, List.length_cons, List.length_nil]; omega) [false, false]
            refine ⟨p26, n26, c26, w26, hr26, key7 _ _ _ M w26 _ (by rw [List.length_append, hlen]; simp; omega) (by omega) (by omega) ho26 (hg21'.trans hg26) ?_⟩
            have : midE l nd pr = [46] ++ (l.drop 1).take (M.toNat - 1) ++ List.replicate (pr + 1 - M).toNat 48 := by
              unfold midE
              rw [if_pos hpr]
              simp only [hM]
              rw [if_pos hm]
            rw [this]; simp [List.append_assoc]
          · have hm := of_decide_eq_false hm
            refine key7 _ _ _ 1 w21 _ (by simp; omega) (by omega) (by omega) ho21 hg21' ?_
            have : midE l nd pr = [46] ++ List.replicate pr.toNat 48 := by
              unfold midE
              rw [if_pos hpr]
              simp only []
              rw [if_neg hm]
            rw [this, show pr + 1 - 1 = pr by omega]; simp [List.append_assoc]
        · have hpr := of_decide_eq_false hpr
          refine key4 _ _ _ _ ?_ hg6'
          have : midE l nd pr = [] := by unfold midE; rw [if_neg hpr]
          rw [this, List.append_nil]; exact ho6
      refine ⟨fun h0 => ?_, fun h0 => ?_⟩
      · have h0 : nd ≠ 0 := by
          intro e; rw [e] at h0; simp at h0
        obtain ⟨b0, hb0⟩ : ∃ b, l[0]? = some b := ⟨_, List.getElem?_eq_getElem (by omega)⟩
        obtain ⟨g, hsg2, hc0⟩ := (hs.tagd hg3.tagd).cell hb0
        refine ⟨⟨by omega, by omega⟩, ⟨g, 0, none⟩, hsg2, _, hc0, key3 b0 ?_⟩
        rw [if_neg h0]
        cases l with
        | nil => simp at hb0
        | cons x r => simpa using hb0.symm
      · have h0 : nd = 0 := by
          have := h0; simp only [Bool.not_eq_false', decide_eq_true_eq] at this; omega
        exact key3 48 (by rw [if_pos h0])
    refine ⟨fun hn w27 hw27 => ?_, fun hn => key2 _ _ _ w (by rw [hn]; simpa [signF] using ho) (Gr.refl _ _)⟩
    obtain ⟨p28, n28, c28, w28, hr28, ho28, hg28⟩ := append_litT (bs := [45]) ho hB hw27 rfl rfl (by simp; omega) [false, false]
    exact ⟨p28, n28, c28, w28, hr28, key2 _ _ _ w28 (by rw [hn]; exact ho28) hg28⟩
  -- the form without one
  have keyF : ∀ pr : Int, 0 ≤ pr → pr ≤ 600 → -10 ≤ dp → dp ≤ 10 → efgF neg l dp nd prec = fF neg l dp nd pr → Kx pr 102 w := by
    intro pr hq0 hq1 hdp0 hdp1 hout
    rw [hout] at hK
    refine hK pr 102 w ?_
    clear hK keyE
    intro K1 hK1
    refine ⟨fun h => absurd (of_decide_eq_true h) (by decide), fun _ => hK1 _ _ ⟨fun h => absurd h (by decide), fun _ => ⟨fun _ => ?_, fun h => absurd h (by decide)⟩⟩⟩
    clear hK1
    intro K8 hK8
    have hil : (intF l dp nd).length ≤ 100 := by
      unfold intF
      split
      · simp only [List.length_append, List.length_take, List.length_replicate]
        split <;> omega
      · simp
    have key8 : ∀ p1 n1 c1 w3, Own B w3 p1 n1 c1 (acc ++ signF neg) → Gr B w w3 → K8 p1 n1 c1 w3 := by
      intro p1 n1 c1 w3 ho3 hg3
      refine hK8 p1 n1 c1 w3 ?_
      clear hK8
      have hB3 := Nat.le_trans hB hg3.size
      intro K9 hK9
      have key9 : ∀ p30 n30 c30 w30, Own B w30 p30 n30 c30 (acc ++ signF neg ++ intF l dp nd) → Gr B w w30 → K9 p30 n30 c30 w30 := by
        intro p30 n30 c30 w30 ho30 hg30
        refine hK9 p30 n30 c30 w30 ?_
        clear hK9
        have hB30 := Nat.le_trans hB hg30.size
        refine ⟨fun hpr w31 hw31 => ?_, fun hpr => ?_⟩
        · have hpr := of_decide_eq_true hpr
          obtain ⟨p32, n32, c32, w32, hr32, ho32, hg32⟩ := append_litT (bs := [46]) ho30 hB30 hw31 rfl rfl (by simp; omega) [false, false]
          have hg32' := hg30.trans hg32
          have hB32 := Nat.le_trans hB hg32'.size
          have hfr : fracF l dp nd pr = [46] ++ List.replicate (if (if 0 - dp > 0 then 0 - dp else 0) < pr then (if 0 - dp > 0 then 0 - dp else 0) else pr).toNat 48 ++ (l.drop (dp + (if (if 0 - dp > 0 then 0 - dp else 0) < pr then (if 0 - dp > 0 then 0 - dp else 0) else pr)).toNat).take (if (if (nd : Int) - (dp + (if (if 0 - dp > 0 then 0 - dp else 0) < pr then (if 0 - dp > 0 then 0 - dp else 0) else pr)) > 0 then (nd : Int) - (dp + (if (if 0 - dp > 0 then 0 - dp else 0) < pr then (if 0 - dp > 0 then 0 - dp else 0) else pr)) else 0) < pr - (if (if 0 - dp > 0 then 0 - dp else 0) < pr then (if 0 - dp > 0 then 0 - dp else 0) else pr) then (if (nd : Int) - (dp + (if (if 0 - dp > 0 then 0 - dp else 0) < pr then (if 0 - dp > 0 then 0 - dp else 0) else pr)) > 0 then (nd : Int) - (dp + (if (if 0 - dp > 0 then 0 - dp else 0) < pr then (if 0 - dp > 0 then 0 - dp else 0) else pr)) else 0) else pr - (if (if 0 - dp > 0 then 0 - dp else 0) < pr then (if 0 - dp > 0 then 0 - dp else 0) else pr)).toNat ++ List.replicate (if pr - (if (if 0 - dp > 0 then 0 - dp else 0) < pr then (if 0 - dp > 0 then 0 - dp else 0) else pr) - (if (if (nd : Int) - (dp + (if (if 0 - dp > 0 then 0 - dp else 0) < pr then (if 0 - dp > 0 then 0 - dp else 0) else pr)) > 0 then (nd : Int) - (dp + (if (if 0 - dp > 0 then 0 - dp else 0) < pr then (if 0 - dp > 0 then 0 - dp else 0) else pr)) else 0) < pr - (if (if 0 - dp > 0 then 0 - dp else 0) < pr then (if 0 - dp > 0 then 0 - dp else 0) else pr) then (if (nd : Int) - (dp + (if (if 0 - dp > 0 then 0 - dp else 0) < pr then (if 0 - dp > 0 then 0 - dp else 0) else pr)) > 0 then (nd : Int) - (dp + (if (if 0 - dp > 0 then 0 - dp else 0) < pr then (if 0 - dp > 0 then 0 - dp else 0) else pr)) else 0) else pr - (if (if 0 - dp > 0 then 0 - dp else 0) < pr then (if 0 - dp > 0 then 0 - dp else 0) else pr)) > 0 then pr - (if (if 0 - dp > 0 then 0 - dp else 0) < pr then (if 0 - dp > 0 then 0 - dp else 0) else pr) - (if (if (nd : Int) - (dp + (if (if 0 - dp > 0 then 0 - dp else 0) < pr then (if 0 - dp > 0 then 0 - dp else 0) else pr)) > 0 then (nd : Int) - (dp + (if (if 0 - dp > 0 then 0 - dp else 0) < pr then (if 0 - dp > 0 then 0 - dp else 0) else pr)) else 0) < pr - (if (if 0 - dp > 0 then 0 - dp else 0) < pr then (if 0 - dp > 0 then 0 - dp else 0) else pr) then (if (nd : Int) - (dp + (if (if 0 - dp > 0 then 0 - dp else 0) < pr then (if 0 - dp > 0 then 0 - dp else 0) else pr)) > 0 then (nd : Int) - (dp + (if (if 0 - dp > 0 then 0 - dp else 0) < pr then (if 0 - dp > 0 then 0 - dp else 0) else pr)) else 0) else pr - (if (if 0 - dp > 0 then 0 - dp else 0) < pr then (if 0 - dp > 0 then 0 - dp else 0) else pr)) else 0).toNat 48 := by
            unfold fracF
            rw [if_pos hpr]
          refine ⟨p32, n32, c32, w32, hr32, 0 - dp, i64w (by omega) (by omega), _, rfl, _, rfl, ?_⟩
          generalize hz : (if 0 - dp > 0 then 0 - dp else 0) = z at *
          have hz0 : 0 ≤ z ∧ z ≤ 10 := by rw [← hz]; split <;> omega
          have hz1 : 0 - dp ≤ z := by rw [← hz]; split <;> omega
          generalize hlz : (if z < pr then z else pr) = lz at *
          have hlz0 : 0 ≤ lz ∧ lz ≤ pr ∧ lz ≤ z := by rw [← hlz]; split <;> omega
          have hlz1 : lz < pr → lz = z := by rw [← hlz]; split <;> omega
          refine ⟨dp + lz, i64w (by omega) (by omega), pr - lz, i64w (by omega) (by omega), (nd : Int) - (dp + lz), i64w (by omega) (by omega), _, rfl, _, rfl, pr - lz, i64w (by omega) (by omega), ?_⟩
          generalize hr : (if (nd : Int) - (dp + lz) > 0 then (nd : Int) - (dp + lz) else 0) = r at *
          have hr0 : 0 ≤ r ∧ ((nd : Int) - (dp + lz) ≤ r) ∧ (0 < r → r = (nd : Int) - (dp + lz)) ∧ r ≤ 1000 := by rw [← hr]; split <;> omega
          generalize hm : (if r < pr - lz then r else pr - lz) = m at *
          have hm0 : 0 ≤ m ∧ m ≤ r ∧ m ≤ pr - lz := by rw [← hm]; split <;> omega
          refine ⟨pr - lz - m, i64w (by omega) (by omega), _, rfl, ?_⟩
          generalize htz : (if pr - lz - m > 0 then pr - lz - m else 0) = tz at *
          have htz0 : 0 ≤ tz ∧ tz ≤ 1000 := by rw [← htz]; split <;> omega
          refine zero_loop lz ho32 hB32 (by simp; omega) (by omega) _ fun p33 n33 c33 w33 ho33 hg33 => ?_
          have hg33' := hg32'.trans hg33
          have hB33 := Nat.le_trans hB hg33'.size
          -- the digits in the middle
          let A := acc ++ signF neg ++ intF l dp nd ++ [46] ++ List.replicate lz.toNat 48
          have hA : A.length ≤ 3000 := by simp [A]; omega
          refine ⟨fun mm p' n' c' i w' => Gr B w w' ∧ ∃ k : Nat, i = k ∧ k ≤ m.toNat ∧ mm = m.toNat - k ∧ Own B w' p' n' c' (A ++ (l.drop (dp + lz).toNat).take k), ⟨m.toNat, hg33', 0, rfl, by omega, rfl, by simpa [A] using ho33⟩, ?_⟩
          rintro mm p' n' c' i w' ⟨hg', k, rfl, hk, rfl, ho'⟩
          have hB' := Nat.le_trans hB hg'.size
          refine ⟨fun hlt => ?_, fun hge => ?_⟩
          · have hlt := of_decide_eq_true hlt
            have hoff : 0 ≤ dp + lz := by have := hlz1 (by omega); omega
            have hidx : (dp + lz).toNat + k < l.length := by omega
            obtain ⟨b, hb⟩ : ∃ b, l[(dp + lz).toNat + k]? = some b := ⟨_, List.getElem?_eq_getElem hidx⟩
            obtain ⟨g, hsg2, hcell⟩ := (hs.tagd hg'.tagd).cell hb
            have hb' : (l.drop (dp + lz).toNat)[k]? = some b := by rw [List.getElem?_drop]; exact hb
            refine ⟨dp + lz + k, i64w (by omega) (by omega), ⟨by omega, by omega⟩, ⟨g, 0, none⟩, hsg2, (b.toNat : Int), ?_, fun w37 hw37 => ?_⟩
            · rw [add_at, Nat.zero_add, Nat.mul_one, show (dp + lz + (k : Int)).toNat = (dp + lz).toNat + k by omega]; exact hcell
            obtain ⟨p38, n38, c38, w38, hr38, ho38, hg38⟩ := append_litT (bs := [b]) ho' hB' hw37 rfl rfl (by simp; omega) [false, false]
            refine ⟨p38, n38, c38, w38, hr38, _, i64w (by omega) (by omega), m.toNat - (k + 1), by omega, hg'.trans hg38, k + 1, by omega, by omega, rfl, ?_⟩
            rw [take_succ_get _ _ _ hb', ← List.append_assoc]; exact ho38
          · have hge := of_decide_eq_false hge
            have hkm : k = m.toNat := by omega
            subst hkm
            refine zero_loop tz ho' hB' (by rw [List.length_append, List.length_take]; omega) (by omega) _ fun p39 n39 c39 w39 ho39 hg39 => ?_
            refine ⟨_, _, _, rfl, ?_, hg'.trans hg39⟩
            have : acc ++ fF neg l dp nd pr = A ++ (l.drop (dp + lz).toNat).take m.toNat ++ List.replicate tz.toNat 48 := by
              unfold fF
              rw [hfr]
              simp [A, List.append_assoc]
            rw [this]; exact ho39
        · have hpr := of_decide_eq_false hpr
          refine ⟨_, _, _, rfl, ?_, hg30⟩
          have : acc ++ fF neg l dp nd pr = acc ++ signF neg ++ intF l dp nd := by
            unfold fF fracF
            rw [if_neg hpr]
            simp [List.append_assoc]
          rw [this]; exact ho30
      refine ⟨fun hdp => ?_, fun hdp w48 hw48 => ?_⟩
      · have hdp := of_decide_eq_true hdp
        have hin : intF l dp nd = l.take (if dp < (nd : Int) then dp else (nd : Int)).toNat ++ List.replicate (dp - (if dp < (nd : Int) then dp else (nd : Int))).toNat 48 := by unfold intF; rw [if_pos hdp]
        refine ⟨_, rfl, ?_⟩
        generalize hm : (if dp < (nd : Int) then dp else (nd : Int)) = m at *
        have hm0 : 0 ≤ m ∧ m ≤ nd ∧ m ≤ dp := by rw [← hm]; split <;> omega
        refine ⟨⟨by omega, by omega⟩, fun mm p' n' c' i w' => Gr B w w' ∧ ∃ k : Nat, i = k ∧ k ≤ m.toNat ∧ mm = m.toNat - k ∧ Own B w' p' n' c' (acc ++ signF neg ++ l.take k), ⟨m.toNat, hg3, 0, rfl, by omega, rfl, by simpa using ho3⟩, ?_⟩
        rintro mm p' n' c' i w' ⟨hg', k, rfl, hk, rfl, ho'⟩
        have hB' := Nat.le_trans hB hg'.size
        refine ⟨fun hlt => ?_, fun hge => ?_⟩
        · have hlt := of_decide_eq_true hlt
          obtain ⟨b, hb⟩ : ∃ b, l[k]? = some b := ⟨_, List.getElem?_eq_getElem (by omega)⟩
          obtain ⟨g, hsg2, hcell⟩ := (hs.tagd hg'.tagd).cell hb
          refine ⟨⟨by omega, by omega⟩, ⟨g, 0, none⟩, hsg2, _, by rw [add_at, Nat.zero_add, Nat.mul_one, Int.toNat_natCast]; exact hcell, fun w43 hw43 => ?_⟩
          obtain ⟨p44, n44, c44, w44, hr44, ho44, hg44⟩ := append_litT (bs := [b]) ho' hB' hw43 rfl rfl (by simp; omega) [false, false]
          refine ⟨p44, n44, c44, w44, hr44, _, i64w (by omega) (by omega), m.toNat - (k + 1), by omega, hg'.trans hg44, k + 1, by omega, by omega, rfl, ?_⟩
          rw [take_succ_get _ _ _ hb, ← List.append_assoc]; exact ho44
        · have hge := of_decide_eq_false hge
          have hkm : k = m.toNat := by omega
          subst hkm
          refine ⟨dp - m, i64w (by omega) (by omega), ?_⟩
          refine zero_loop (dp - m) ho' hB' (by rw [List.length_append, List.length_take]; simp; omega) (by omega) _ fun p45 n45 c45 w45 ho45 hg45 => ?_
          refine key9 _ _ _ _ ?_ (hg'.trans hg45)
          rw [hin, ← List.append_assoc]; exact ho45
      · have hdp := of_decide_eq_false hdp
        obtain ⟨p49, n49, c49, w49, hr49, ho49, hg49⟩ := append_litT (bs := [48]) ho3 hB3 hw48 rfl rfl (by simp; omega) [false, false]
        refine ⟨p49, n49, c49, w49, hr49, key9 _ _ _ _ ?_ (hg3.trans hg49)⟩
        have : intF l dp nd = [48] := by unfold intF; rw [if_neg hdp]
        rw [this]; exact ho49
    refine ⟨fun hn w50 hw50 => ?_, fun hn => key8 _ _ _ w (by rw [hn]; simpa [signF] using ho) (Gr.refl _ _)⟩
    obtain ⟨p28, n28, c28, w28, hr28, ho28, hg28⟩ := append_litT (bs := [45]) ho hB hw50 rfl rfl (by simp; omega) [false, false]
    exact ⟨p28, n28, c28, w28, hr28, key8 _ _ _ w28 (by rw [hn]; exact ho28) hg28⟩
  clear hK
  -- which of the two
  intro K10 hK10
  refine ⟨fun h => absurd (of_decide_eq_true h) (by decide), fun _ => hK10 _ w ⟨fun _ => ?_, fun h => absurd h (by decide)⟩⟩
  clear hK10
  intro K11 hK11
  have key11 : ∀ ep, K11 ep w := by
    intro ep
    refine hK11 ep w ?_
    clear hK11
    intro K12 hK12
    refine ⟨fun _ => hK12 6 w ⟨dp - 1, i64w (by omega) (by omega), ?_⟩, fun h => absurd h (by decide)⟩
    clear hK12
    intro K13 hK13
    have key13 : ∀ b : Bool, (b = true ↔ (dp - 1 < -4 ∨ 6 ≤ dp - 1)) → K13 b w := by
      intro b hb
      refine hK13 b w ⟨fun hbt => ?_, fun hbf => ?_⟩
      · have hb := hb.1 hbt
        intro K14 hK14
        have key14 : ∀ q : Int, q = (if (nd : Int) < prec then (nd : Int) else prec) → K14 q w := by
          intro q hq
          have hq0 : -1 ≤ q ∧ q ≤ 40 := by rw [hq]; split <;> omega
          exact hK14 q w ⟨q - 1, i64w (by omega) (by omega), 172, rfl, 69, rfl, keyE (q - 1) (by omega) (by omega) (by unfold efgF; rw [if_pos hb, hq])⟩
        exact ⟨fun h => key14 _ (by rw [if_pos (of_decide_eq_true h)]), fun h => key14 _ (by rw [if_neg (of_decide_eq_false h)])⟩
      · have hb : ¬ (dp - 1 < -4 ∨ 6 ≤ dp - 1) := fun e => by rw [hb.2 e] at hbf; cases hbf
        refine ⟨fun h => ?_, fun h => ?_⟩
        · have h := of_decide_eq_true h
          refine ⟨(nd : Int) - dp, i64w (by omega) (by omega), _, rfl, keyF _ ?_ ?_ (by omega) (by omega) (by unfold efgF; rw [if_neg hb]; simp only [if_pos h])⟩ <;> split <;> omega
        · have h := of_decide_eq_false h
          refine ⟨prec - dp, i64w (by omega) (by omega), _, rfl, keyF _ ?_ ?_ (by omega) (by omega) (by unfold efgF; rw [if_neg hb]; simp only [if_neg h])⟩ <;> split <;> omega
    refine ⟨fun h => key13 true ?_, fun h => key13 _ ?_⟩
    · have h := of_decide_eq_true h
      simp only [true_iff]; omega
    · have h := of_decide_eq_false h
      simp only [decide_eq_true_eq]; omega
  exact ⟨fun h => ⟨fun _ => key11 _, fun _ => key11 _⟩, fun h => key11 _⟩
end Go.Proofs.Tryz
