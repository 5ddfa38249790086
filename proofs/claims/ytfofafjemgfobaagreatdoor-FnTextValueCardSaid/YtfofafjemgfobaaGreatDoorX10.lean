/- A part of a proof. -/
import Derived.Test.YtfofafjemgfobaaGreatDoorX9
import GoSem.PinnedTables
set_option linter.unusedVariables false
namespace Go.Proofs.Tryz
open Go.Vc Go.RowKit Go.Sort
def nanB (n : Nat) : Bool := FloatKind.f64.format.order n n != some .eq
def infB (n : Nat) : Bool := FloatKind.f64.format.order n 9218868437227405311 == some .gt
def ninfB (n : Nat) : Bool := FloatKind.f64.format.order (Op.negFloat .f64 n) 9218868437227405311 == some .gt
def tenHi (i : Nat) : Int := (Go.Pinned.pow10Rows[i]?.getD (0, 0)).1
def tenLo (i : Nat) : Int := (Go.Pinned.pow10Rows[i]?.getD (0, 0)).2
structure Tabs (w : World) : Prop where
  pow : Pow w
  size : 15 < w.heap.size
  ten : ∀ i, i < 696 → w.cell? ⟨15, 2 * i, none⟩ = some (.int .u64 (tenHi i)) ∧ w.cell? ⟨15, 2 * i + 1, none⟩ = some (.int .u64 (tenLo i))
theorem Tabs.keeps {w w' : World} (h : Tabs w) (k : Keeps w w') : Tabs w' := ⟨tabIs_keeps k h.pow, Nat.lt_of_lt_of_le h.size k.size, fun i hi => ⟨k.cell (h.ten i hi).1, k.cell (h.ten i hi).2⟩⟩
def FloatIs (F : Nat → List UInt8) : Prop := ∀ n, (F n).length ≤ 100 ∧ (n < 18446744073709551616 → ∀ w, Tabs w → Ret 61 [.float .f64 n, .int .u8 71, .int .i64 (-1), .int .i64 64] w (.string (mkS (F n))))
theorem ret28 (n : Nat) (w : World) : Ret 28 [.float .f64 n] w (.bool (nanB n)) := Ret.of (c28 _ w _ ⟨rfl, Keeps.refl _⟩)
theorem ret29p (n : Nat) (w : World) : Ret 29 [.float .f64 n, .int .i64 1] w (.bool (infB n)) := by
  refine Ret.of (c29 _ _ w _ ?_)
  unfold VC29
  exact ⟨fun h => absurd (of_decide_eq_true h) (by decide), fun _ => ⟨fun h => absurd (of_decide_eq_true h) (by decide), fun _ => ⟨rfl, Keeps.refl _⟩⟩⟩
theorem ret29n (n : Nat) (w : World) : Ret 29 [.float .f64 n, .int .i64 (-1)] w (.bool (ninfB n)) := by
  refine Ret.of (c29 _ _ w _ ?_)
  unfold VC29
  exact ⟨fun h => absurd (of_decide_eq_true h) (by decide), fun _ => ⟨fun _ => ⟨_, w, rfl, rfl, Keeps.refl _⟩, fun h => absurd (of_decide_eq_false h) (by decide)⟩⟩
def dotB (s : List UInt8) : Bool := s.any fun b => b == 46 || b == 69
def dblF (F : Nat → List UInt8) (n : Nat) : List UInt8 :=
  if nanB n then [78, 97, 78] else if infB n then [73, 110, 102, 105, 110, 105, 116, 121] else if ninfB n then [45, 73, 110, 102, 105, 110, 105, 116, 121]
  else if dotB (F n) then F n else F n ++ [46, 48]
theorem u8_eq_iff (b : UInt8) (n : Nat) (h : n < 256) : ((b.toNat : Int) = (n : Int)) ↔ b = UInt8.ofNat n := by
  constructor
  · intro e
    apply UInt8.toNat_inj.1
    have := u8_toNat_ofNat n h
    omega
  · rintro rfl; exact u8_toNat_ofNat n h
theorem ret27 {F : Nat → List UInt8} (hF : FloatIs F) (n : Nat) (hn : n < 18446744073709551616) (w : World) (ht : Tabs w) : Ret 27 [.float .f64 n] w (.string (mkS (dblF F n))) := by
  refine Ret.of (c27 _ w _ ?_)
  unfold VC27 dblF
  refine (ret28 n w).go fun w1 hk1 => ⟨_, rfl, fun h => ?_, fun h => ?_⟩
  · rw [if_pos h]; exact ⟨rfl, hk1⟩
  · rw [h]
    simp only [Bool.false_eq_true, if_false]
    refine (ret29p n w1).go fun w2 hk2 => ⟨_, rfl, fun h1 => ?_, fun h1 => ?_⟩
    · rw [if_pos h1]; exact ⟨rfl, hk1.trans hk2⟩
    · rw [h1]
      simp only [Bool.false_eq_true, if_false]
      refine (ret29n n w2).go fun w3 hk3 => ⟨_, rfl, fun h2 => ?_, fun h2 => ?_⟩
      · rw [if_pos h2]; exact ⟨rfl, (hk1.trans hk2).trans hk3⟩
      · rw [h2]
        simp only [Bool.false_eq_true, if_false]
        have hk3' := (hk1.trans hk2).trans hk3
        have hl := (hF n).1
        have hr := (hF n).2 hn w3 (ht.keeps hk3')
        generalize F n = s at *
        refine hr.go fun w4 hk4 => ⟨_, rfl, fun m i w5 => w5 = w4 ∧ ∃ k : Nat, i = k ∧ k ≤ s.length ∧ m = s.length - k ∧ dotB s = dotB (s.drop k), ⟨s.length, rfl, 0, rfl, by omega, rfl, rfl⟩, ?_⟩
        have hk4' := hk3'.trans hk4
        rintro m i w5 ⟨rfl, k, rfl, hkl, rfl, hd⟩
        refine ⟨fun hlt => ?_, fun hge => ?_⟩
        · have hlt := of_decide_eq_true hlt
          have hget := List.getElem?_eq_getElem (show k < s.length by omega)
          have hdc : s.drop k = s[k]'(by omega) :: s.drop (k + 1) := List.drop_eq_getElem_cons (by omega)
          generalize s[k]'(by omega) = b at *
          have e46 := u8_eq_iff b 46 (by decide)
          have e69 := u8_eq_iff b 69 (by decide)
          have hdb : dotB (s.drop k) = (b == 46 || b == 69 || dotB (s.drop (k + 1))) := by rw [hdc]; simp [dotB]
          refine ⟨b, ⟨by omega, hget⟩, fun h46 => ⟨?_, hk4'⟩, fun h46 => ⟨b, ⟨by omega, hget⟩, fun h69 => ⟨?_, hk4'⟩, fun h69 => ⟨_, i64w (by omega) (by omega), s.length - (k + 1), by omega, rfl, k + 1, by omega, by omega, rfl, ?_⟩⟩⟩
          · have : b = 46 := e46.1 (of_decide_eq_true h46)
            rw [hd, hdb, this]; rfl
          · have : b = 69 := e69.1 (of_decide_eq_true h69)
            rw [hd, hdb, this]; rfl
          · have n46 : (b == 46) = false := beq_false_of_ne fun e => of_decide_eq_false h46 (e46.2 e)
            have n69 : (b == 69) = false := beq_false_of_ne fun e => of_decide_eq_false h69 (e69.2 e)
            rw [hd, hdb, n46, n69]; rfl
        · have hge := of_decide_eq_false hge
          have hdn : s.drop k = [] := List.drop_eq_nil_of_le (by omega)
          have hf : dotB s = false := by rw [hd, hdn]; rfl
          rw [hf]
          exact ⟨by simp; omega, rfl, hk4'⟩
theorem ret23 (s : List UInt8) (a : Addr) (e : Bool) (w : World) (hl : s.length ≤ 1099511627776) (ha : w.cell? a = some (.bool e)) : Ret 23 [.string (mkS s), .pointer (some a)] w (.string (mkS (strF e s))) :=
  Ret.of (c23 s a w _ ⟨e, ha, (ret24 s e w hl).go fun w1 hk1 => ⟨_, rfl, rfl, hk1⟩⟩)
def wrapF (name s : List UInt8) : List UInt8 := [123, 34] ++ name ++ [34, 58] ++ s ++ [125]
theorem ret25 (name s : List UInt8) (w : World) (h : name.length + s.length ≤ 4611686018427387904) : Ret 25 [.string (mkS name), .string (mkS s)] w (.tuple ⟨[.string (mkS (wrapF name s)), .bool true]⟩) :=
  Ret.of (c25 name s w _ ⟨by simp; omega, by simp; omega, by simp; omega, by simp; omega, rfl, Keeps.refl _⟩)
end Go.Proofs.Tryz
