/- Parts of a proof, joined: B3, A11, A12, A17, A18, B4. -/
import Derived.Test.YtfofafjemgfobaaGreatDoorX14
import Derived.Test.YtfofafjemgfobaaGreatDoorX9
set_option linter.unusedVariables false
namespace Go.Proofs.Tryz
open Go.Vc Go.RowKit
def bytesT (T : Val → List UInt8) (x : Val) : List UInt8 :=
  if x.kind = 1 ∨ x.kind = 17 then le64 x.bits
  else if x.kind = 2 ∨ x.kind = 13 ∨ x.kind = 14 then docText x.text
  else if x.kind = 3 ∨ x.kind = 4 then docB T x.kids
  else if x.kind = 5 then (if x.num = 2 then le32 ((x.b.length : Int) + 4) ++ [2] ++ le32 (x.b.length : Int) else le32 (x.b.length : Int) ++ [b8 x.num]) ++ x.b
  else if x.kind = 7 then x.b
  else if x.kind = 8 then [b8 x.num]
  else if x.kind = 9 ∨ x.kind = 18 then le64 (IntKind.u64.wrap x.num)
  else if x.kind = 16 then le32 x.num
  else if x.kind = 11 then x.text ++ [0] ++ x.more ++ [0]
  else if x.kind = 12 then docText x.text ++ x.b
  else if x.kind = 19 then le64 x.bits ++ le64 x.high
  else []
theorem KidB.keeps {T : Val → List UInt8} {w w' : World} {kp : Option Addr} {i : Nat} {n : List UInt8} {y : Val} (h : KidB T w kp i n y) (k : Keeps w w') : KidB T w' kp i n y := by
  obtain ⟨ka, bp', bc', kp', kc', h1, h2, h3, h4⟩ := h
  exact ⟨ka, bp', bc', kp', kc', h1, loadsRow_keeps h2 k, h3, fun w'' k' => h4 w'' (k.trans k')⟩
theorem ret17v (T : Val → List UInt8) (x : Val) (bp kp : Option Addr) (bc kc : Nat) (w : World) (hb : ReadsB w bp x.b) (hbn : bp = none → bc = 0) (hbl : x.b.length ≤ 300) (htl : x.text.length ≤ 300) (hml : x.more.length ≤ 300) (h15 : x.kind ≠ 15)
    (hkids : (x.kind = 3 ∨ x.kind = 4) → x.kids.length ≤ 1125899906842624 ∧ (bodyB T x.kids).length ≤ 900000000 ∧ ∀ i n y, x.kids[i]? = some (n, y) → KidB T w kp i n y) :
    Adds 17 [.agg ⟨valCells x bp bc kp kc⟩] w.heap.size w (bytesT T x) := by
  refine Adds.of (c17 _ _ _ _ _ _ _ _ _ _ _ _ w _ ?_)
  unfold VC17
  intro w1 hw1
  have hk1 : Keeps w w1 := by rw [hw1]; exact (Keeps.refl w).alloc _
  have hv1 : Var w1 w.heap.size 26 (valCells x bp bc kp kc) := by rw [hw1]; exact var_alloc w _ 26
  clear hw1
  have hg1 : Gr w.heap.size w w1 := Gr.of hk1 (Nat.le_refl _)
  have hB1 := hk1.size
  have ho1 : Own w.heap.size w1 none 0 0 [] := Own.nil _ _
  obtain ⟨bt, hbt⟩ : ∃ bt, bytesT T x = bt := ⟨_, rfl⟩
  rw [hbt]
  have fin : ∀ w' p n c l, Own w.heap.size w' p n c l → Gr w.heap.size w1 w' → bt = l → (∃ p' n' c', Value.slice p n c = .slice p' n' c' ∧ Own w.heap.size w' p' n' c' bt ∧ Gr w.heap.size w w') :=
    fun w' p n c l ho hg he => ⟨p, n, c, rfl, by rw [he]; exact ho, hg1.trans hg⟩
  have vk : ∀ w', Gr w.heap.size w1 w' → Var w' w.heap.size 26 (valCells x bp bc kp kc) := fun w' hg => hg.tagd _ 26 _ (by decide) hv1
  have rd : ∀ w', Gr w.heap.size w1 w' → ReadsB w' bp x.b := fun w' hg => hb.keeps (hg1.trans hg).below
  have kd : ∀ w' i n y, Gr w.heap.size w1 w' → KidB T w kp i n y → KidB T w' kp i n y := fun w' i n y hg h => h.keeps (hg1.trans hg).below
  have sz : ∀ w', Gr w.heap.size w1 w' → w.heap.size ≤ w'.heap.size := fun w' hg => Nat.le_trans hB1 hg.size
  have g0 : Gr w.heap.size w1 w1 := Gr.refl _ _
  refine ⟨x.kind, hv1.lies.at 0 rfl rfl, ?_⟩
  intro Kx hK
  have key : ∀ b : Bool, (b = true ↔ x.kind = 1 ∨ x.kind = 17) → Kx b w1 := by
    intro b hbk
    refine hK b w1 ⟨fun h => ?_, fun h => ?_⟩
    · have h := hbk.1 h
      refine ⟨x.bits, hv1.lies.at 4 rfl rfl, (ret49 ho1 hB1 x.bits (by simp)).go fun w3 p3 n3 c3 ho3 hg3 => ⟨p3, n3, c3, rfl, fin _ _ _ _ _ ho3 hg3 ?_⟩⟩
      rw [← hbt]; unfold bytesT; rw [if_pos h]; simp
    have n1 : ¬ (x.kind = 1 ∨ x.kind = 17) := fun e => by rw [hbk.2 e] at h; cases h
    intro K1 hK1
    have key1 : ∀ b : Bool, (b = true ↔ x.kind = 2 ∨ x.kind = 13 ∨ x.kind = 14) → K1 b w1 := by
      intro b hbk
      refine hK1 b w1 ⟨fun h => ?_, fun h => ?_⟩
      · have h := hbk.1 h
        refine ⟨x.text, hv1.lies.at 1 rfl rfl, (ret50 ho1 hB1 x.text (by simp) (by omega)).go fun w3 p3 n3 c3 ho3 hg3 => ⟨p3, n3, c3, rfl, fin _ _ _ _ _ ho3 hg3 ?_⟩⟩
        rw [← hbt]; unfold bytesT; rw [if_neg n1, if_pos h]; simp
      have n2 : ¬ (x.kind = 2 ∨ x.kind = 13 ∨ x.kind = 14) := fun e => by rw [hbk.2 e] at h; cases h
      intro K2 hK2
      have key2 : ∀ b : Bool, (b = true ↔ x.kind = 3 ∨ x.kind = 4) → K2 b w1 := by
        intro b hbk
        refine hK2 b w1 ⟨fun h => ?_, fun h => ?_⟩
        · have h := hbk.1 h
          obtain ⟨q1, q2, q3⟩ := hkids h
          refine ⟨kp, x.kids.length, kc, hv1.lies.at 7 rfl rfl, ?_⟩
          refine (ret14 T x.kids kp kc w1 q1 (fun i n y hi => kd w1 i n y g0 (q3 i n y hi)) q2).go fun w3 p3 n3 c3 ho3 hg3 => ⟨p3, n3, c3, rfl, fin _ _ _ _ _ (ho3.weaken hB1) (Gr.of hg3.keeps hB1) ?_⟩
          rw [← hbt]; unfold bytesT; rw [if_neg n1, if_neg n2, if_pos h]
        have n3 : ¬ (x.kind = 3 ∨ x.kind = 4) := fun e => by rw [hbk.2 e] at h; cases h
        refine ⟨fun h => ?_, fun h5 => ⟨fun h => ?_, fun h7 => ⟨fun h => ?_, fun h8 => ?_⟩⟩⟩
        · have h : x.kind = 5 := of_decide_eq_true h
          have e : bt = (if x.num = 2 then le32 ((x.b.length : Int) + 4) ++ [2] ++ le32 (x.b.length : Int) else le32 (x.b.length : Int) ++ [b8 x.num]) ++ x.b := by
            rw [← hbt]; unfold bytesT; rw [if_neg n1, if_neg n2, if_neg n3, if_pos h]
          refine ⟨bp, x.b.length, bc, hv1.lies.at 6 rfl rfl, x.num, hv1.lies.at 3 rfl rfl, fun h2 => ?_, fun h2 => ?_⟩
          · have h2 : x.num = 2 := of_decide_eq_true h2
            rw [if_pos h2] at e
            refine ⟨_, i64w (by omega) (by omega), (ret47 ho1 hB1 _ (by simp)).go fun w3 p3 n3' c3 ho3 hg3 => ⟨p3, n3', c3, rfl, fun w4 hw4 => ?_⟩⟩
            obtain ⟨p5, n5, c5, w5, hr5, ho5, hg5⟩ := append_litT ho3 (sz _ hg3) hw4 (bs := [2]) rfl rfl (by simp [le32_len]) [false, false]
            have g5 := hg3.trans hg5
            refine ⟨p5, n5, c5, w5, hr5, (ret47 ho5 (sz _ g5) _ (by simp [le32_len])).go fun w6 p6 n6 c6 ho6 hg6 => ⟨p6, n6, c6, rfl, bp, x.b.length, bc, (vk _ (g5.trans hg6)).lies.at 6 rfl rfl, ?_⟩⟩
            have g6 := g5.trans hg6
            obtain ⟨p7, n7, c7, w7, hr7, ho7, hg7⟩ := append_bytesT ho6 (rd _ g6) rfl hbn (sz _ g6) (by simp [le32_len]; omega) [false, false]
            exact ⟨p7, n7, c7, w7, hr7, fin _ _ _ _ _ ho7 (g6.trans hg7) (by rw [e]; simp [List.append_assoc])⟩
          · have h2 : ¬ x.num = 2 := of_decide_eq_false h2
            rw [if_neg h2] at e
            refine (ret47 ho1 hB1 _ (by simp)).go fun w3 p3 n3' c3 ho3 hg3 => ⟨p3, n3', c3, rfl, x.num, (vk _ hg3).lies.at 3 rfl rfl, _, u8_wrap x.num, fun w4 hw4 => ?_⟩
            obtain ⟨p5, n5, c5, w5, hr5, ho5, hg5⟩ := append_litT ho3 (sz _ hg3) hw4 (bs := [b8 x.num]) rfl rfl (by simp [le32_len]) [false, false]
            have g5 := hg3.trans hg5
            refine ⟨p5, n5, c5, w5, hr5, bp, x.b.length, bc, (vk _ g5).lies.at 6 rfl rfl, ?_⟩
            obtain ⟨p7, n7, c7, w7, hr7, ho7, hg7⟩ := append_bytesT ho5 (rd _ g5) rfl hbn (sz _ g5) (by simp [le32_len]; omega) [false, false]
            exact ⟨p7, n7, c7, w7, hr7, fin _ _ _ _ _ ho7 (g5.trans hg7) (by rw [e]; simp [List.append_assoc])⟩
        · have h5 : ¬ x.kind = 5 := of_decide_eq_false h5
          have h : x.kind = 7 := of_decide_eq_true h
          refine ⟨bp, x.b.length, bc, hv1.lies.at 6 rfl rfl, ?_⟩
          obtain ⟨p7, n7, c7, w7, hr7, ho7, hg7⟩ := append_bytesT ho1 (rd _ g0) rfl hbn hB1 (by simp; omega) [false, false]
          refine ⟨p7, n7, c7, w7, hr7, fin _ _ _ _ _ ho7 hg7 ?_⟩
          rw [← hbt]; unfold bytesT; rw [if_neg n1, if_neg n2, if_neg n3, if_neg h5, if_pos h]; simp
        · have h5 : ¬ x.kind = 5 := of_decide_eq_false h5
          have h7 : ¬ x.kind = 7 := of_decide_eq_false h7
          have h : x.kind = 8 := of_decide_eq_true h
          refine ⟨x.num, hv1.lies.at 3 rfl rfl, _, u8_wrap x.num, fun w4 hw4 => ?_⟩
          obtain ⟨p5, n5, c5, w5, hr5, ho5, hg5⟩ := append_litT ho1 hB1 hw4 (bs := [b8 x.num]) rfl rfl (by simp) [false, false]
          refine ⟨p5, n5, c5, w5, hr5, fin _ _ _ _ _ ho5 hg5 ?_⟩
          rw [← hbt]; unfold bytesT; rw [if_neg n1, if_neg n2, if_neg n3, if_neg h5, if_neg h7, if_pos h]; simp
        have h5 : ¬ x.kind = 5 := of_decide_eq_false h5
        have h7 : ¬ x.kind = 7 := of_decide_eq_false h7
        have h8 : ¬ x.kind = 8 := of_decide_eq_false h8
        have tl : bt = (if x.kind = 9 ∨ x.kind = 18 then le64 (IntKind.u64.wrap x.num) else if x.kind = 16 then le32 x.num else if x.kind = 11 then x.text ++ [0] ++ x.more ++ [0] else if x.kind = 12 then docText x.text ++ x.b else if x.kind = 19 then le64 x.bits ++ le64 x.high else []) := by
          rw [← hbt]; unfold bytesT; rw [if_neg n1, if_neg n2, if_neg n3, if_neg h5, if_neg h7, if_neg h8]
        intro K3 hK3
        have key3 : ∀ b : Bool, (b = true ↔ x.kind = 9 ∨ x.kind = 18) → K3 b w1 := by
          intro b hbk
          refine hK3 b w1 ⟨fun h => ?_, fun h => ?_⟩
          · have h := hbk.1 h
            rw [if_pos h] at tl
            exact ⟨x.num, hv1.lies.at 3 rfl rfl, _, rfl, (ret49 ho1 hB1 _ (by simp)).go fun w3 p3 n3 c3 ho3 hg3 => ⟨p3, n3, c3, rfl, fin _ _ _ _ _ ho3 hg3 (by rw [tl]; simp)⟩⟩
          have n9 : ¬ (x.kind = 9 ∨ x.kind = 18) := fun e => by rw [hbk.2 e] at h; cases h
          rw [if_neg n9] at tl
          refine ⟨fun h => ?_, fun h16 => ⟨fun h => ?_, fun h11 => ⟨fun h => ?_, fun h12 => ⟨fun h => absurd (of_decide_eq_true h) h15, fun _ => ⟨fun h => ?_, fun h19 => ?_⟩⟩⟩⟩⟩
          · rw [if_pos (of_decide_eq_true h)] at tl
            exact ⟨x.num, hv1.lies.at 3 rfl rfl, (ret47 ho1 hB1 _ (by simp)).go fun w3 p3 n3 c3 ho3 hg3 => ⟨p3, n3, c3, rfl, fin _ _ _ _ _ ho3 hg3 (by rw [tl]; simp)⟩⟩
          · rw [if_neg (of_decide_eq_false h16), if_pos (of_decide_eq_true h)] at tl
            refine ⟨x.text, hv1.lies.at 1 rfl rfl, ?_⟩
            obtain ⟨p2, n2', c2, w2, hr2, ho2, hg2⟩ := append_strT (l2 := x.text) ho1 hB1 (by simp; omega) [false, false]
            refine ⟨p2, n2', c2, w2, hr2, fun w3 hw3 => ?_⟩
            obtain ⟨p4, n4, c4, w4, hr4, ho4, hg4⟩ := append_litT ho2 (sz _ hg2) hw3 (bs := [0]) rfl rfl (by simp; omega) [false, false]
            have g4 := hg2.trans hg4
            refine ⟨p4, n4, c4, w4, hr4, x.more, (vk _ g4).lies.at 2 rfl rfl, ?_⟩
            obtain ⟨p5, n5, c5, w5, hr5, ho5, hg5⟩ := append_strT (l2 := x.more) ho4 (sz _ g4) (by simp; omega) [false, false]
            have g5 := g4.trans hg5
            refine ⟨p5, n5, c5, w5, hr5, fun w6 hw6 => ?_⟩
            obtain ⟨p7, n7, c7, w7, hr7, ho7, hg7⟩ := append_litT ho5 (sz _ g5) hw6 (bs := [0]) rfl rfl (by simp; omega) [false, false]
            exact ⟨p7, n7, c7, w7, hr7, fin _ _ _ _ _ ho7 (g5.trans hg7) (by rw [tl]; simp)⟩
          · rw [if_neg (of_decide_eq_false h16), if_neg (of_decide_eq_false h11), if_pos (of_decide_eq_true h)] at tl
            refine ⟨x.text, hv1.lies.at 1 rfl rfl, (ret50 ho1 hB1 x.text (by simp) (by omega)).go fun w3 p3 n3' c3 ho3 hg3 => ⟨p3, n3', c3, rfl, bp, x.b.length, bc, (vk _ hg3).lies.at 6 rfl rfl, ?_⟩⟩
            obtain ⟨p7, n7, c7, w7, hr7, ho7, hg7⟩ := append_bytesT ho3 (rd _ hg3) rfl hbn (sz _ hg3) (by simp [docText, le32_len]; omega) [false, false]
            exact ⟨p7, n7, c7, w7, hr7, fin _ _ _ _ _ ho7 (hg3.trans hg7) (by rw [tl]; simp)⟩
          · rw [if_neg (of_decide_eq_false h16), if_neg (of_decide_eq_false h11), if_neg (of_decide_eq_false h12), if_pos (of_decide_eq_true h)] at tl
            refine ⟨x.bits, hv1.lies.at 4 rfl rfl, (ret49 ho1 hB1 _ (by simp)).go fun w3 p3 n3' c3 ho3 hg3 => ⟨p3, n3', c3, rfl, x.high, (vk _ hg3).lies.at 5 rfl rfl, ?_⟩⟩
            exact (ret49 ho3 (sz _ hg3) _ (by simp [le64_len])).go fun w4 p4 n4 c4 ho4 hg4 => ⟨p4, n4, c4, rfl, fin _ _ _ _ _ ho4 (hg3.trans hg4) (by rw [tl]; simp)⟩
          · rw [if_neg (of_decide_eq_false h16), if_neg (of_decide_eq_false h11), if_neg (of_decide_eq_false h12), if_neg (of_decide_eq_false h19)] at tl
            exact fin _ _ _ _ _ ho1 g0 tl
        exact ⟨fun h => key3 _ (by simp [of_decide_eq_true h]), fun h => key3 _ (by simp [of_decide_eq_false h])⟩
      exact ⟨fun h => key2 _ (by simp [of_decide_eq_true h]), fun h => key2 _ (by simp [of_decide_eq_false h])⟩
    exact ⟨fun h => key1 _ (by simp [of_decide_eq_true h]), fun h => ⟨fun h' => key1 _ (by simp [of_decide_eq_true h']), fun h' => key1 _ (by simp [of_decide_eq_false h, of_decide_eq_false h'])⟩⟩
  exact ⟨fun h => key _ (by simp [of_decide_eq_true h]), fun h => key _ (by simp [of_decide_eq_false h])⟩
theorem frombits (x : Int) (w : World) : (callFunc 26 ⟨[.int .u64 x]⟩).run prog w = .ok (.value (.float .f64 x.toNat)) w := by kernel_rfl
theorem tobits (x : Nat) (w : World) : (callFunc 57 ⟨[.float .f64 x]⟩).run prog w = .ok (.value (.int .u64 x)) w := by kernel_rfl
def nparts : Nat → Val → Nat
  | 0, _ => 1
  | d + 1, x => 1 + (x.kids.map fun p => nparts d p.2).sum
theorem sum_take_succ (l : List Nat) (k : Nat) (v : Nat) (h : l[k]? = some v) : (l.take (k + 1)).sum = (l.take k).sum + v := by
  rw [take_succ_get l k v h, List.sum_append]; simp
theorem below_iter {B : Nat} {a w : World} (h : Below B a w) (k : Nat) (hk : B ≤ k) (o : Obj) : Below B a { w with heap := w.heap.setIfInBounds k o } :=
  h.trans ⟨rfl, rfl, rfl, by simp, fun j hj => by simp [Array.getElem?_setIfInBounds]; omega⟩
theorem decode_one (s : List UInt8) (pos : Nat) (b : UInt8) (hb : s[pos]? = some b) (ha : b.toNat < 128) : Utf8.decode (mkS s) pos = (b.toNat, 1) := by
  have hlt : pos < (mkS s).size := (List.getElem?_eq_some_iff.1 hb).1
  have e : (mkS s)[pos]'hlt = b := by
    have := (List.getElem?_eq_some_iff.1 hb).2
    exact this
  have := decode_ascii (mkS s) pos hlt (by rw [e]; exact ha)
  rw [this, e]
theorem ret21 : ∀ (D : Nat) (x : Val) (bp kp : Option Addr) (bc kc : Nat) (g : Nat) (L : Int) (w0 w : World), Hangs D w0 x bp bc kp kc → Keeps w0 w → w0.heap.size ≤ g → Var w g 3 [.int .i64 L] →
    -1099511627776 ≤ L → L ≤ 1099511627776 → D ≤ 200 →
    Calls prog 21 ⟨[.agg ⟨valCells x bp bc kp kc⟩, .int .i64 (D : Int), .pointer (some ⟨g, 0, none⟩)]⟩ w fun e w' => ∃ b, e = .returned (.bool b) ∧ w.grownBy w' (some g) ∧ ∃ L', Var w' g 3 [.int .i64 L'] ∧
      (b = true → 1 ≤ D ∧ FitsV (D - 1) x ∧ L' = L - nparts (D - 1) x ∧ 0 ≤ L') := by
  intro D
  induction D using Nat.strongRecOn with
  | _ D ih =>
  intro x bp kp bc kc g L w0 w hh hk0 hg0 hvL hL1 hL2 hD
  have := c21 x.kind x.text x.more x.num x.bits x.high bp x.b.length bc kp x.kids.length kc D ⟨g, 0, none⟩ w (fun v w' => ∃ b, v = .bool b ∧ w.grownBy w' (some g) ∧ ∃ L', Var w' g 3 [.int .i64 L'] ∧
      (b = true → 1 ≤ D ∧ FitsV (D - 1) x ∧ L' = L - nparts (D - 1) x ∧ 0 ≤ L')) ?_
  · exact this.mono fun e w' ⟨v, he, b, hv, h⟩ => ⟨b, by rw [he, hv], h⟩
  unfold VC21
  intro w1 hw1
  have hk1 : Keeps w w1 := by rw [hw1]; exact (Keeps.refl w).alloc _
  have hv1 : Var w1 w.heap.size 26 (valCells x bp bc kp kc) := by rw [hw1]; exact var_alloc w _ 26
  have hvL1 := hvL.keeps hk1
  have hgw : g < w.heap.size := hvL.lt
  have hne : w.heap.size ≠ g := by omega
  refine ⟨L, hvL1.lies.at 0 rfl rfl, _, i64w (by omega) (by omega), hvL1.can (show 0 < 1 by decide) rfl, fun w2 hw2 => ?_⟩
  have hg2 : w1.grownBy w2 (some g) := by rw [hw2]; exact setCell_grown w1 _ _
  have hvL2 : Var w2 g 3 [.int .i64 (L - 1)] := by rw [hw2]; exact hvL1.set 0 _
  have hv2 := grown_var hg2 hne hv1
  -- what goes through the walk
  let J : World → Prop := fun w' => w.grownBy w' (some g) ∧ Var w' w.heap.size 26 (valCells x bp bc kp kc) ∧ Var w' g 3 [.int .i64 (L - 1)]
  have hJ2 : J w2 := ⟨grown_trans (hk1.grownBy _) hg2, hv2, hvL2⟩
  have Jk : ∀ w' w'', J w' → Keeps w' w'' → J w'' := fun w' w'' ⟨h1, h2, h3⟩ hk => ⟨grown_trans h1 (hk.grownBy _), h2.keeps hk, h3.keeps hk⟩
  have no : ∀ w' L', w.grownBy w' (some g) → Var w' g 3 [.int .i64 L'] → ∃ b, Value.bool false = .bool b ∧ w.grownBy w' (some g) ∧ ∃ L', Var w' g 3 [.int .i64 L'] ∧ (b = true → 1 ≤ D ∧ FitsV (D - 1) x ∧ L' = L - nparts (D - 1) x ∧ 0 ≤ L') :=
    fun w' L' h1 h2 => ⟨false, rfl, h1, L', h2, fun h => by cases h⟩
  have noJ : ∀ w', J w' → ∃ b, Value.bool false = .bool b ∧ w.grownBy w' (some g) ∧ ∃ L', Var w' g 3 [.int .i64 L'] ∧ (b = true → 1 ≤ D ∧ FitsV (D - 1) x ∧ L' = L - nparts (D - 1) x ∧ 0 ≤ L') :=
    fun w' h => no w' _ h.1 h.2.2
  have hown := hh.own
  refine ⟨L - 1, hvL2.lies.at 0 rfl rfl, fun _ => noJ _ hJ2, fun hneg => ⟨fun _ => noJ _ hJ2, fun hdeep => ⟨x.text, hv2.lies.at 1 rfl rfl, ?_⟩⟩⟩
  have hneg := of_decide_eq_false hneg
  have hD1 : 1 ≤ D := by have := of_decide_eq_false hdeep; omega
  refine (ret56 x.text w2).go fun w3 hk3 => ⟨_, rfl, fun _ => noJ _ (Jk _ _ hJ2 hk3), fun ht1 => ?_⟩
  have ht1 : textF x.text = true := by simpa using ht1
  have hJ3 := Jk _ _ hJ2 hk3
  refine ⟨x.more, hJ3.2.1.lies.at 2 rfl rfl, ?_⟩
  refine (ret56 x.more w3).go fun w4 hk4 => ⟨_, rfl, fun _ => noJ _ (Jk _ _ hJ3 hk4), fun ht2 => ?_⟩
  have ht2 : textF x.more = true := by simpa using ht2
  have hJ4 := Jk _ _ hJ3 hk4
  refine ⟨bp, x.b.length, bc, hJ4.2.1.lies.at 6 rfl rfl, fun _ => noJ _ hJ4, fun hbl => ?_⟩
  have hbl : x.b.length ≤ 300 := by have := of_decide_eq_false hbl; omega
  have htl := textF_len ht1
  have htl2 := textF_len ht2
  intro Kx hK
  have key : ∀ w5, J w5 → OwnFits x → Kx w5 := by
    intro w5 hJ5 hof
    refine hK w5 ⟨kp, x.kids.length, kc, hJ5.2.1.lies.at 7 rfl rfl, ?_⟩
    obtain ⟨d, rfl⟩ : ∃ d, D = d + 1 := ⟨D - 1, by omega⟩
    have hd : d + 1 - 1 = d := rfl
    rw [hd] at *
    let ps : List Nat := x.kids.map fun p => nparts (d - 1) p.2
    refine ⟨fun m i w6 => w.grownBy w6 (some g) ∧ Var w6 w.heap.size 26 (valCells x bp bc kp kc) ∧ ∃ (k : Nat) (Lk : Int), i = k ∧ k ≤ x.kids.length ∧ m = x.kids.length - k ∧ Var w6 g 3 [.int .i64 Lk] ∧ Lk = L - 1 - ((ps.take k).sum : Nat) ∧ 0 ≤ Lk ∧
        (∀ j n y, j < k → x.kids[j]? = some (n, y) → 1 ≤ d ∧ textF n = true ∧ FitsV (d - 1) y),
      ⟨x.kids.length, hJ5.1, hJ5.2.1, 0, L - 1, rfl, by omega, rfl, hJ5.2.2, by simp, by omega, fun j n y hj => by omega⟩, ?_⟩
    rintro m i w6 ⟨hg6, hv6, k, Lk, rfl, hkl, rfl, hvL6, hLk, hLk0, hdone⟩
    refine ⟨fun h => ?_, fun h => ?_⟩
    · have h := of_decide_eq_true h
      have hlt : k < x.kids.length := by omega
      have hget := List.getElem?_eq_getElem hlt
      rcases hny : x.kids[k]'hlt with ⟨n, y⟩
      rw [hny] at hget
      have hk06 : Keeps w0 w6 := Below.grown hk0 hg6 hk0.size (fun j hj => by cases hj; exact hg0)
      obtain ⟨ka, bp', bc', kp', kc', hka, hrow0, hhy⟩ := hh.kid hget
      have hrow : LoadsRow prog 46 w6 (ka.add (k * 9)) (Value.string (mkS n) :: valCells y bp' bc' kp' kc') := ⟨hrow0.1, fun i v hi => hk06.cell (hrow0.2 i v hi)⟩
      refine ⟨⟨by omega, by omega⟩, ka, hka, _, _, _, _, _, _, _, _, _, _, _, _, _, hrow, fun w7 hw7 => ?_⟩
      obtain ⟨w8, hst8, hk8, hs8, hv8⟩ := store_new (t := 46) (cs := Value.string (mkS n) :: valCells y bp' bc' kp' kc') hw7 n46 rfl rfl rfl
      have hg8 := grown_trans hg6 (hk8.grownBy (some g))
      have hvL8 := hvL6.keeps hk8
      have hvx8 := hv6.keeps hk8
      refine ⟨w8, hst8, n, hv8.lies.at 0 rfl rfl, ?_⟩
      refine (ret56 n w8).go fun w9 hk9 => ⟨_, rfl, fun _ => no w9 Lk (grown_trans hg8 (hk9.grownBy _)) (hvL8.keeps hk9), fun htn => ?_⟩
      have htn : textF n = true := by simpa using htn
      have hg9 := grown_trans hg8 (hk9.grownBy (some g))
      have hvL9 := hvL8.keeps hk9
      have hvx9 := hvx8.keeps hk9
      have hv9 := hv8.keeps hk9
      have hps : ps[k]? = some (nparts (d - 1) y) := by simp only [ps, List.getElem?_map, hget, Option.map_some]
      -- the kid
      have kid : Calls prog 21 ⟨[.agg ⟨valCells y bp' bc' kp' kc'⟩, .int .i64 (d : Int), .pointer (some ⟨g, 0, none⟩)]⟩ w9 fun e w10 => ∃ x141 : Bool, e = .returned (.bool x141) ∧ 
                        ((!x141) = true →
                        ∃ b, Value.bool false = .bool b ∧ w.grownBy w10 (some g) ∧ ∃ L', Var w10 g 3 [.int .i64 L'] ∧ (b = true → 1 ≤ d + 1 ∧ FitsV d x ∧ L' = L - nparts d x ∧ 0 ≤ L')) ∧ ((!x141) = false →
                        ∃ x144 : Int, IntKind.i64.wrap ((k : Int) + 1) = x144 ∧ 
                          ∃ m_1, m_1 < x.kids.length - k ∧ (w.grownBy w10 (some g) ∧ Var w10 w.heap.size 26 (valCells x bp bc kp kc) ∧ ∃ (k' : Nat) (Lk : Int), x144 = k' ∧ k' ≤ x.kids.length ∧ m_1 = x.kids.length - k' ∧ Var w10 g 3 [.int .i64 Lk] ∧ Lk = L - 1 - ((ps.take k').sum : Nat) ∧ 0 ≤ Lk ∧
        (∀ j n y, j < k' → x.kids[j]? = some (n, y) → 1 ≤ d ∧ textF n = true ∧ FitsV (d - 1) y))) := by
        refine (ih d (by omega) y bp' kp' bc' kc' g Lk w0 w9 hhy (Below.grown hk0 hg9 hk0.size (fun j hj => by cases hj; exact hg0)) hg0 hvL9 (by omega) (by omega) (by omega)).mono ?_
        rintro e w10 ⟨b, rfl, hg10, L', hvL10, hb⟩
        have hg10' := grown_trans hg9 hg10
        refine ⟨b, rfl, fun _ => no w10 L' hg10' hvL10, fun hbt => ?_⟩
        obtain ⟨hd1, hfy, hL', hL0⟩ := hb (by simpa using hbt)
        have hkl2 := hown.2.2.2.2.2.2.2
        refine ⟨_, i64w (by omega) (by omega), x.kids.length - (k + 1), by omega, hg10', grown_var hg10 hne hvx9, k + 1, L', by omega, by omega, rfl, hvL10, ?_, hL0, ?_⟩
        · rw [sum_take_succ ps k _ hps, hL', hLk]; omega
        · intro j n' y' hj hjy
          by_cases hjk : j < k
          · exact hdone j n' y' hjk hjy
          · have : j = k := by omega
            subst this
            rw [hget] at hjy
            cases hjy
            exact ⟨hd1, htn, hfy⟩
      have hrow1 : LoadsRow prog 26 w9 ⟨w6.heap.size, 1, none⟩ (valCells y bp' bc' kp' kc') := (Lies.row (hv9.lies.sub 1 8) n26)
      have hdd : (((d + 1 : Nat) : Int) - 1) = (d : Int) := by omega
      refine ⟨n, hv9.lies.at 0 rfl rfl, fun hnn => ?_, fun _ => ?_⟩
      · have hnn : n ≠ [] := by simpa using hnn
        obtain ⟨b0, nr, rfl⟩ : ∃ b0 nr, n = b0 :: nr := by
          cases n with
          | nil => exact absurd rfl hnn
          | cons a r => exact ⟨a, r, rfl⟩
        refine ⟨_, hv9.lies.at 0 rfl rfl, b0, ⟨by decide, rfl⟩, fun _ => no w9 Lk hg9 hvL9, fun _ => ⟨_, _, _, _, _, _, _, _, _, _, _, _, hrow1, (d : Int), ?_, kid⟩⟩
        rw [hdd]; exact i64w (by omega) (by omega)
      · refine ⟨_, _, _, _, _, _, _, _, _, _, _, _, hrow1, (d : Int), ?_, kid⟩
        rw [hdd]; exact i64w (by omega) (by omega)
    · have h := of_decide_eq_false h
      have hkk : k = x.kids.length := by omega
      refine ⟨true, rfl, hg6, Lk, hvL6, fun _ => ⟨by omega, ?_, ?_, hLk0⟩⟩
      · cases d with
        | zero =>
          refine ⟨hof, ?_⟩
          cases hx : x.kids with
          | nil => rfl
          | cons a r =>
            have := (hdone 0 a.1 a.2 (by rw [hkk, hx]; simp) (by rw [hx]; rfl)).1
            omega
        | succ d' =>
          refine ⟨hof, fun n y hm => ?_⟩
          obtain ⟨j, hj⟩ := List.mem_iff_getElem?.1 hm
          have hjl := (List.getElem?_eq_some_iff.1 hj).1
          have := hdone j n y (by omega) hj
          exact ⟨this.2.1, this.2.2⟩
      · have hpl : ps.length = x.kids.length := by simp [ps]
        have htake : ps.take k = ps := List.take_of_length_le (by omega)
        rw [htake] at hLk
        rw [hLk]
        cases d with
        | zero =>
          have hx : x.kids = [] := by
            cases hx : x.kids with
            | nil => rfl
            | cons a r =>
              have := (hdone 0 a.1 a.2 (by rw [hkk, hx]; simp) (by rw [hx]; rfl)).1
              omega
          simp only [ps, hx, nparts]; simp
        | succ d' =>
          have : nparts (d' + 1) x = 1 + ps.sum := rfl
          rw [this]; omega
  refine ⟨x.kind, hJ4.2.1.lies.at 0 rfl rfl, fun h1 => ?_, fun h1 => ⟨fun h12 => ?_, fun h12 => ⟨fun h19 => ?_, fun h19 => ⟨fun h11 => ?_, fun h11 => ?_⟩⟩⟩⟩
  · have h1 := of_decide_eq_true h1
    have hof : OwnFits x := ⟨ht1, ht2, hbl, by omega, by omega, by omega⟩
    refine ⟨x.bits, hJ4.2.1.lies.at 4 rfl rfl, _, w4, frombits x.bits w4, [(⟨w.heap.size, 4, none⟩, .int .u64 x.bits)], hJ4.2.1.lies.at 4 rfl rfl, fun _ => ?_, fun _ => ?_⟩
    · refine ⟨x.bits, by simp, ?_⟩
      have := c58 w4.drew (fun v w' => (∃ n : Nat, v = .float .f64 n) ∧ Keeps w4 w') ⟨_, _, frombits _ _, ⟨_, rfl⟩, (Keeps.refl w4).drew⟩
      refine this.mono ?_
      rintro e w13 ⟨v, rfl, ⟨n, rfl⟩, hk13⟩
      have hJ13 := Jk _ _ hJ4 hk13
      exact ⟨n, rfl, hJ13.2.1.lies.at 4 rfl rfl, _, w13, tobits n w13, hJ13.2.1.lies.at 4 rfl rfl, fun _ => noJ _ hJ13, fun _ => key _ hJ13 hof⟩
    · have hJd := Jk _ _ hJ4 ((Keeps.refl w4).drew)
      exact ⟨hJd.2.1.lies.at 4 rfl rfl, hJd.2.1.lies.at 4 rfl rfl, key _ hJd hof⟩
  · have h12 := of_decide_eq_true h12
    have hJd := Jk _ _ hJ4 ((Keeps.refl w4).drew)
    refine ⟨[(⟨w.heap.size, 1, none⟩, .string (mkS x.text))], hJ4.2.1.lies.at 1 rfl rfl, x.text, by simp, x.text, by simp, by simp; omega, by simp; omega, ?_⟩
    refine (ret24 x.text true w4.drew (by omega)).go fun w15 hk15 => ⟨_, rfl, (Jk _ _ hJd hk15).2.1.lies.at 1 rfl rfl, fun _ => noJ _ (Jk _ _ hJd hk15), fun he => ?_⟩
    refine key _ (Jk _ _ hJd hk15) ⟨ht1, ht2, hbl, fun _ => ?_, by omega, by omega⟩
    simp only [Bool.not_eq_false', decide_eq_true_eq] at he
    rw [he]; simp
  · have h19 := of_decide_eq_true h19
    refine ⟨x.high, hJ4.2.1.lies.at 5 rfl rfl, x.bits, hJ4.2.1.lies.at 4 rfl rfl, ?_⟩
    have hb := hown.2.2.2.2.1
    have hhi := hown.2.2.2.2.2.1
    obtain ⟨h, hhe⟩ := Int.eq_ofNat_of_zero_le hhi.1
    obtain ⟨l, hle⟩ := Int.eq_ofNat_of_zero_le hb.1
    have hh2 := hhi.2
    have hb2 := hb.2
    rw [hhe] at hh2 ⊢
    rw [hle] at hb2 ⊢
    refine (ret59 h l (by omega) (by omega) w4).go fun b w16 hbd hk16 => ⟨b, rfl, fun _ => noJ _ (Jk _ _ hJ4 hk16), fun hbt => ?_⟩
    refine key _ (Jk _ _ hJ4 hk16) ⟨ht1, ht2, hbl, by omega, fun _ => ?_, by omega⟩
    rw [hhe, hle]; exact hbd (by simpa using hbt)
  · have h11 := of_decide_eq_true h11
    refine ⟨x.more, hJ4.2.1.lies.at 2 rfl rfl, fun w17 hw17 => ?_⟩
    have hk17 : Keeps w4 w17 := by rw [hw17]; exact (Keeps.refl w4).alloc _
    refine ⟨fun m w18 => Keeps w4 w18 ∧ ∃ pos : Nat, w18.heap[w4.heap.size]? = some (.stringIter (mkS x.more) pos) ∧ pos ≤ x.more.length ∧ m = x.more.length - pos ∧ (∀ j b, j < pos → x.more[j]? = some b → 97 ≤ b.toNat ∧ b.toNat ≤ 122) ∧
        (∀ j a b, j + 1 < pos → x.more[j]? = some a → x.more[j + 1]? = some b → a.toNat ≤ b.toNat),
      ⟨x.more.length, hk17, 0, by rw [hw17]; exact heap_alloc_new w4 _, by omega, rfl, fun j b hj => by omega, fun j a b hj => by omega⟩, ?_⟩
    rintro m w18 ⟨hk18, pos, hit, hpl, rfl, hlet, hsor⟩
    refine ⟨x.more, pos, hit, fun hlt w19 hw19 => ?_, fun hge => ?_⟩
    · have hget := List.getElem?_eq_getElem hlt
      generalize hbb : x.more[pos]'hlt = b at hget
      have hk19 : Keeps w4 w19 := by rw [hw19]; exact below_iter hk18 _ (Nat.le_refl _) _
      have hJ19 := Jk _ _ hJ4 hk19.drew
      have ep : ((pos : Int)).toNat = pos := rfl
      refine ⟨x.more, hJ19.2.1.lies.at 2 rfl rfl, b, ⟨by omega, hget⟩, fun _ => noJ _ hJ19, fun h97 => ⟨x.more, hJ19.2.1.lies.at 2 rfl rfl, b, ⟨by omega, hget⟩, fun _ => noJ _ hJ19, fun h122 => ?_⟩⟩
      have h97 := of_decide_eq_false h97
      have h122 := of_decide_eq_false h122
      have hdec := decode_one x.more pos b hget (by omega)
      have next : (∀ a, 0 < pos → x.more[pos - 1]? = some a → a.toNat ≤ b.toNat) → ∃ m_4, m_4 < x.more.length - pos ∧ (Keeps w4 w19.drew ∧ ∃ pos' : Nat, w19.drew.heap[w4.heap.size]? = some (.stringIter (mkS x.more) pos') ∧ pos' ≤ x.more.length ∧ m_4 = x.more.length - pos' ∧ (∀ j b, j < pos' → x.more[j]? = some b → 97 ≤ b.toNat ∧ b.toNat ≤ 122) ∧
        (∀ j a b, j + 1 < pos' → x.more[j]? = some a → x.more[j + 1]? = some b → a.toNat ≤ b.toNat)) := by
        intro hprev
        refine ⟨x.more.length - (pos + 1), by omega, hk19.drew, pos + 1, ?_, by omega, rfl, ?_, ?_⟩
        · show w19.heap[w4.heap.size]? = _
          rw [hw19, hdec]
          have : w4.heap.size < w18.heap.size := (Array.getElem?_eq_some_iff.1 hit).1
          simp [this]
        · intro j c hj hc
          by_cases hjp : j < pos
          · exact hlet j c hjp hc
          · have : j = pos := by omega
            subst this
            rw [hget] at hc; cases hc; omega
        · intro j a c hj ha hc
          by_cases hjp : j + 1 < pos
          · exact hsor j a c hjp ha hc
          · have : pos = j + 1 := by omega
            subst this
            rw [hget] at hc; cases hc
            exact hprev a (by omega) (by simpa using ha)
      refine ⟨fun h0 => ?_, fun h0 => next fun a ha => by have := of_decide_eq_false h0; omega⟩
      have h0 := of_decide_eq_true h0
      have hgetp := List.getElem?_eq_getElem (show pos - 1 < x.more.length by omega)
      refine ⟨x.more, hJ19.2.1.lies.at 2 rfl rfl, b, ⟨by omega, hget⟩, x.more, hJ19.2.1.lies.at 2 rfl rfl, (pos : Int) - 1, i64w (by omega) (by omega), _, ⟨by omega, by rw [show ((pos : Int) - 1).toNat = pos - 1 by omega]; exact hgetp⟩, fun _ => noJ _ hJ19, fun hs => next fun a _ ha => ?_⟩
      have hs := of_decide_eq_false hs
      rw [hgetp] at ha; cases ha; omega
    · have hpe : pos = x.more.length := by omega
      refine key _ (Jk _ _ hJ4 hk18) ⟨ht1, ht2, hbl, by omega, by omega, fun _ => ⟨fun b hb => ?_, fun i a b ha hb => ?_⟩⟩
      · obtain ⟨j, hj⟩ := List.mem_iff_getElem?.1 hb
        exact hlet j b (by have := (List.getElem?_eq_some_iff.1 hj).1; omega) hj
      · exact hsor i a b (by have := (List.getElem?_eq_some_iff.1 hb).1; omega) ha hb
  · have h1 := of_decide_eq_false h1
    have h12 := of_decide_eq_false h12
    have h19 := of_decide_eq_false h19
    have h11 := of_decide_eq_false h11
    exact key _ hJ4 ⟨ht1, ht2, hbl, fun e => (h12 e).elim, fun e => (h19 e).elim, fun e => (h11 e).elim⟩
instance (n : Int) : Decidable (inI64 n) := inferInstanceAs (Decidable (_ ∧ _))
instance (n : Int) : Decidable (inU64 n) := inferInstanceAs (Decidable (_ ∧ _))
theorem ret22 (d : Nat) (x : Val) (bp kp : Option Addr) (bc kc : Nat) (w : World) (hh : Hangs d w x bp bc kp kc) (hf : FitsV d x) (hd : d < 200) :
    RetB 22 [.agg ⟨valCells x bp bc kp kc⟩] w (fun b => b = true → RightV d x) := by
  refine RetB.of (c22 _ _ _ _ _ _ _ _ _ _ _ _ w (fun u w' => ∃ b, u = .bool b ∧ (b = true → RightV d x) ∧ Keeps w w') ?_)
  unfold VC22
  intro w1 hw1
  have hk1 : Keeps w w1 := by rw [hw1]; exact (Keeps.refl w).alloc _
  have hv1 : Var w1 w.heap.size 26 (valCells x bp bc kp kc) := by rw [hw1]; exact var_alloc w _ 26
  refine ⟨_, _, _, _, _, _, _, _, _, _, _, _, hv1.lies.row n26, ?_⟩
  exact (ret60 d x bp kp bc kc 200 w1 (hh.keeps hk1) hf (by omega) (by omega)).go fun b w2 hb hk2 => ⟨b, rfl, _, rfl, hb, hk1.trans hk2⟩
theorem ret8 (x : Val) (bp kp : Option Addr) (bc kc : Nat) (w : World) (hh : Hangs 12 w x bp bc kp kc) :
    RetB 8 [.agg ⟨valCells x bp bc kp kc⟩] w (fun b => b = true → FitsV 11 x ∧ RightV 11 x ∧ nparts 11 x ≤ 300) := by
  refine RetB.of (c8 _ _ _ _ _ _ _ _ _ _ _ _ w (fun u w' => ∃ b, u = .bool b ∧ (b = true → FitsV 11 x ∧ RightV 11 x ∧ nparts 11 x ≤ 300) ∧ Keeps w w') ?_)
  unfold VC8
  intro w1 hw1 w2 hw2
  have hk1 : Keeps w w1 := by rw [hw1]; exact (Keeps.refl w).alloc _
  have hv1 : Var w1 w.heap.size 26 (valCells x bp bc kp kc) := by rw [hw1]; exact var_alloc w _ 26
  have hs1 : w1.heap.size = w.heap.size + 1 := by rw [hw1]; simp
  have hk2 : Keeps w1 w2 := by rw [hw2]; exact (Keeps.refl w1).alloc _
  have hvL : Var w2 w1.heap.size 3 [.int .i64 0] := by rw [hw2]; exact var_alloc w1 _ 3
  have hv2 := hv1.keeps hk2
  refine ⟨hvL.can (show 0 < 1 by decide) rfl, fun w3 hw3 => ?_⟩
  have hg3 : w2.grownBy w3 (some w1.heap.size) := by rw [hw3]; exact setCell_grown w2 _ _
  have hvL3 : Var w3 w1.heap.size 3 [.int .i64 300] := by rw [hw3]; exact hvL.set 0 _
  have hv3 := grown_var hg3 (by omega) hv2
  have hk3 : Keeps w w3 := Below.grown (hk1.trans hk2) hg3 (hk1.trans hk2).size (fun j hj => by cases hj; omega)
  refine ⟨_, _, _, _, _, _, _, _, _, _, _, _, hv3.lies.row n26, ?_⟩
  refine (ret21 12 x bp kp bc kc w1.heap.size 300 w w3 hh hk3 (by omega) hvL3 (by omega) (by omega) (by omega)).mono ?_
  rintro e w4 ⟨b, rfl, hg4, L', hvL4, hb⟩
  have hk4 : Keeps w w4 := Below.grown hk3 hg4 hk3.size (fun j hj => by cases hj; omega)
  have hv4 := grown_var hg4 (by omega) hv3
  refine ⟨b, rfl, fun hbt => ?_, fun hbt => ⟨false, rfl, (fun h => by cases h), hk4⟩⟩
  obtain ⟨_, hf, hL', hL0⟩ := hb hbt
  have hf : FitsV 11 x := hf
  have hL' : L' = 300 - nparts 11 x := hL'
  refine ⟨_, _, _, _, _, _, _, _, _, _, _, _, hv4.lies.row n26, ?_⟩
  exact (ret22 11 x bp kp bc kc w4 (hh.down.keeps hk4) hf (by omega)).go fun b2 w5 hb2 hk5 => ⟨b2, rfl, _, rfl, fun h => ⟨hf, hb2 h, by omega⟩, hk4.trans hk5⟩
theorem build_elem (w : World) (n : ByteArray) (k : Int) (t m : ByteArray) (a b h : Int) (bp : Option Addr) (bn bc : Nat) (kp : Option Addr) (kn kc : Nat) :
    (Instr.buildSlice 24 1 ⟨[(0, .agg ⟨[.string n, .int .i64 k, .string t, .string m, .int .i64 a, .int .u64 b, .int .u64 h, .slice bp bn bc, .slice kp kn kc]⟩)]⟩).run prog w =
      .ok (.slice (some ⟨w.heap.size, 0, none⟩) 1 1) (w.alloc (.cells ⟨[.string n, .int .i64 k, .string t, .string m, .int .i64 a, .int .u64 b, .int .u64 h, .slice bp bn bc, .slice kp kn kc]⟩ 46)) := by kernel_rfl
end Go.Proofs.Tryz
set_option linter.unusedVariables false
namespace Go.Proofs.Tryz
open Go.Vc Go.RowKit Go.Sort
def absN (n : Nat) : Nat := (bits .andNot .u64 (n : Int) 9223372036854775808).toNat
def inf0B (n : Nat) : Bool := FloatKind.f64.format.order (absN n) 9218868437227405311 == some .gt
def num1F (F : Nat → List UInt8) (can : Bool) (n : Nat) : List UInt8 :=
  if can || nanB n || inf0B n then wrapF [36, 110, 117, 109, 98, 101, 114, 68, 111, 117, 98, 108, 101] ([34] ++ dblF F n ++ [34]) else dblF F n
def ownT (F : Nat → List UInt8) (can esc : Bool) (ks : Bool → List UInt8) (x : Val) : List UInt8 :=
  if x.kind = 1 then num1F F can x.bits.toNat
  else if x.kind = 2 then strF esc x.text
  else if x.kind = 3 then ks true
  else if x.kind = 4 then ks false
  else if x.kind = 5 then wrapF [36, 98, 105, 110, 97, 114, 121] ([123, 34, 98, 97, 115, 101, 54, 52, 34, 58, 34] ++ b64F x.b ++ [34, 44, 34, 115, 117, 98, 84, 121, 112, 101, 34, 58, 34] ++ hex2 (x.num % 256).toNat ++ [34, 125])
  else if x.kind = 6 then wrapF [36, 117, 110, 100, 101, 102, 105, 110, 101, 100] [116, 114, 117, 101]
  else if x.kind = 7 then wrapF [36, 111, 105, 100] (idF x.b)
  else if x.kind = 8 then (if x.num = 1 then [116, 114, 117, 101] else [102, 97, 108, 115, 101])
  else if x.kind = 9 then wrapF [36, 100, 97, 116, 101] ([123, 34, 36, 110, 117, 109, 98, 101, 114, 76, 111, 110, 103, 34, 58, 34] ++ decNum x.num ++ [34, 125])
  else if x.kind = 10 then [110, 117, 108, 108]
  else if x.kind = 11 then wrapF [36, 114, 101, 103, 117, 108, 97, 114, 69, 120, 112, 114, 101, 115, 115, 105, 111, 110] ([123, 34, 112, 97, 116, 116, 101, 114, 110, 34, 58] ++ strF esc x.text ++ [44, 34, 111, 112, 116, 105, 111, 110, 115, 34, 58] ++ strF esc x.more ++ [125])
  else if x.kind = 12 then wrapF [36, 100, 98, 80, 111, 105, 110, 116, 101, 114] ([123, 34, 36, 114, 101, 102, 34, 58] ++ strF esc x.text ++ [44, 34, 36, 105, 100, 34, 58, 123, 34, 36, 111, 105, 100, 34, 58] ++ idF x.b ++ [125, 125])
  else if x.kind = 13 then wrapF [36, 99, 111, 100, 101] (strF esc x.text)
  else if x.kind = 14 then wrapF [36, 115, 121, 109, 98, 111, 108] (strF esc x.text)
  else if x.kind = 15 then [123, 34, 36, 99, 111, 100, 101, 34, 58] ++ strF esc x.text ++ [44, 34, 36, 115, 99, 111, 112, 101, 34, 58] ++ ks true ++ [125]
  else if x.kind = 16 then (if can then wrapF [36, 110, 117, 109, 98, 101, 114, 73, 110, 116] ([34] ++ decNum x.num ++ [34]) else decNum x.num)
  else if x.kind = 17 then wrapF [36, 116, 105, 109, 101, 115, 116, 97, 109, 112] ([123, 34, 116, 34, 58] ++ decF (x.bits.toNat / 2 ^ 32) ++ [44, 34, 105, 34, 58] ++ decF (x.bits.toNat % 2 ^ 32) ++ [125])
  else if x.kind = 18 then (if can then wrapF [36, 110, 117, 109, 98, 101, 114, 76, 111, 110, 103] ([34] ++ decNum x.num ++ [34]) else decNum x.num)
  else if x.kind = 19 then wrapF [36, 110, 117, 109, 98, 101, 114, 68, 101, 99, 105, 109, 97, 108] ([34] ++ decTextF (decOf x.high.toNat x.bits.toNat) ++ [34])
  else if x.kind = 255 then wrapF [36, 109, 105, 110, 75, 101, 121] [49]
  else wrapF [36, 109, 97, 120, 75, 101, 121] [49]
def textV (F : Nat → List UInt8) (can esc : Bool) : Nat → Val → List UInt8
  | 0, x => []
  | d + 1, x => ownT F can esc (fun three => kidsT esc three (x.kids.map fun p => (p.1, textV F can esc d p.2))) x
theorem decNum_len' (n : Int) (h0 : -9223372036854775808 ≤ n) (h1 : n ≤ 9223372036854775807) : (decNum n).length ≤ 20 := by
  unfold decNum
  split
  · have := decF_le (-n).toNat (by omega)
    simp only [List.length_cons]; omega
  · have := decF_le n.toNat (by omega)
    omega
theorem decF_len64 (n : Nat) (h : n < 18446744073709551616) : (decF n).length ≤ 20 := (decF_len n 20 (by decide)).2 (by omega)
theorem hex2_len (n : Nat) : (hex2 n).length = 2 := rfl
theorem idF_len (l : List UInt8) : (idF l).length = 2 * l.length + 2 := by
  have := hexAll_len l
  simp only [idF, List.length_cons, List.length_append, List.length_nil, this]
theorem decTextF_len (d : Dec) (h2 : d.ds.length ≤ 100) (h3 : -10000 ≤ d.exp) (h4 : d.exp ≤ 100000) : (decTextF d).length ≤ 20000 := by
  unfold decTextF
  simp only []
  have hn := decNum_len (d.exp + d.ds.length - 1) (by omega) (by omega)
  repeat' split
  all_goals simp only [List.length_append, List.length_cons, List.length_nil, List.length_take, List.length_drop, List.length_replicate]
  all_goals omega
theorem decF_pos (n : Nat) : 1 ≤ (decF n).length := by
  by_cases h : n < 10
  · rw [decF_small' n h]; simp
  · rw [decF_step n (by omega)]; simp
theorem decOf_ok (hi lo : Nat) (h1 : hi < 18446744073709551616) (h2 : lo < 18446744073709551616) : (1 ≤ (decOf hi lo).ds.length ∨ (decOf hi lo).kind = 1 ∨ (decOf hi lo).kind = 2) ∧ (decOf hi lo).ds.length ≤ 100 ∧ -10000 ≤ (decOf hi lo).exp ∧ (decOf hi lo).exp ≤ 100000 := by
  unfold decOf
  split
  · exact ⟨.inr (.inl rfl), by simp, by simp, by simp⟩
  split
  · exact ⟨.inr (.inr rfl), by simp, by simp, by simp⟩
  split
  · refine ⟨.inl (by simp), by simp, ?_, ?_⟩
    · show (-10000 : Int) ≤ ((hi / 2 ^ 47 % 16384 : Nat) : Int) - 6176
      omega
    · show ((hi / 2 ^ 47 % 16384 : Nat) : Int) - 6176 ≤ 100000
      omega
  · have hnum := num_lt (hi := hi % 2 ^ 49) (lo := lo) (by omega) h2
    refine ⟨.inl ?_, ?_, ?_, ?_⟩
    · show 1 ≤ (decF (num (hi % 2 ^ 49) lo)).length
      exact decF_pos _
    · show (decF (num (hi % 2 ^ 49) lo)).length ≤ 100
      have := decF_small (hi := hi % 2 ^ 49) (lo := lo) (Nat.lt_of_le_of_lt (Nat.mod_le _ _) h1) h2
      omega
    · show (-10000 : Int) ≤ ((hi / 2 ^ 49 % 16384 : Nat) : Int) - 6176
      omega
    · show ((hi / 2 ^ 49 % 16384 : Nat) : Int) - 6176 ≤ 100000
      omega
theorem ret62 (n : Nat) (w : World) : Ret 62 [.float .f64 n] w (.float .f64 (absN n)) := by
  refine Ret.of (c62 _ w _ ?_)
  unfold VC62
  exact ⟨_, w, tobits n w, _, rfl, _, w, frombits _ w, rfl, Keeps.refl _⟩
theorem ret29z (n : Nat) (w : World) : Ret 29 [.float .f64 n, .int .i64 0] w (.bool (inf0B n)) := by
  refine Ret.of (c29 _ _ w _ ?_)
  unfold VC29
  refine ⟨fun _ => (ret62 n w).go fun w1 hk1 => ⟨_, rfl, rfl, hk1⟩, fun h => absurd (of_decide_eq_false h) (by decide)⟩
theorem dblF_len {F : Nat → List UInt8} (hF : FloatIs F) (n : Nat) (w : World) (ht : Tabs w) : (dblF F n).length ≤ 110 := by
  unfold dblF
  split
  · decide
  split
  · decide
  split
  · decide
  · rename_i h1 h2 h3
    have := (hF n).1
    split
    · omega
    · simp; omega
theorem wrapF_len (a b : List UInt8) : (wrapF a b).length = a.length + b.length + 5 := by
  simp [wrapF]; omega
theorem ite_len {c : Prop} [Decidable c] {a b : List UInt8} {M : Nat} (ha : a.length ≤ M) (hb : b.length ≤ M) : (if c then a else b).length ≤ M := by
  split <;> assumption
theorem ownT_len {F : Nat → List UInt8} (hF : FloatIs F) (can esc : Bool) (ks : Bool → List UInt8) (x : Val) (w : World) (ht : Tabs w) (hf : OwnFits x) (h1 : inI64 x.num) (h2 : inU64 x.bits) (h3 : inU64 x.high) (N : Nat)
    (hks : ∀ b, (ks b).length ≤ N) : (ownT F can esc ks x).length ≤ 30000 + N := by
  have d1 := dblF_len hF x.bits.toNat w ht
  have d2 := strF_len esc x.text
  have d3 := strF_len esc x.more
  have d4 := textF_len hf.1
  have d5 := textF_len hf.2.1
  have d6 := hf.2.2.1
  have d7 := b64F_len _ x.b (Nat.le_refl _)
  have d8 := idF_len x.b
  have d9 := decNum_len' x.num h1.1 h1.2
  have hb : x.bits.toNat < 18446744073709551616 := by unfold inU64 at h2; omega
  have hh : x.high.toNat < 18446744073709551616 := by unfold inU64 at h3; omega
  have d10 := decF_len64 (x.bits.toNat / 2 ^ 32) (Nat.lt_of_le_of_lt (Nat.div_le_self _ _) hb)
  have d11 := decF_len64 (x.bits.toNat % 2 ^ 32) (Nat.lt_of_le_of_lt (Nat.mod_le _ _) hb)
  have dk := decOf_ok _ _ hh hb
  have d12 := decTextF_len _ dk.2.1 dk.2.2.1 dk.2.2.2
  have k1 := hks true
  have k2 := hks false
  have d13 := hex2_len (x.num % 256).toNat
  unfold ownT num1F
  generalize decTextF (decOf x.high.toNat x.bits.toNat) = s12 at *
  generalize decF (x.bits.toNat / 2 ^ 32) = s10 at *
  generalize decF (x.bits.toNat % 2 ^ 32) = s11 at *
  generalize hex2 (x.num % 256).toNat = s13 at *
  generalize dblF F x.bits.toNat = s14 at *
  generalize strF esc x.text = s15 at *
  generalize strF esc x.more = s16 at *
  generalize b64F x.b = s17 at *
  generalize idF x.b = s18 at *
  generalize decNum x.num = s19 at *
  clear dk hb hh h1 h2 h3
  repeat' apply ite_len
  all_goals try simp only [wrapF_len, List.length_append, List.length_cons, List.length_nil]
  all_goals omega
theorem sum_le_map {α : Type} (l : List α) (f g : α → Nat) (h : ∀ a ∈ l, f a ≤ g a) : (l.map f).sum ≤ (l.map g).sum := by
  induction l with
  | nil => simp
  | cons a l ih =>
    have h1 := h a (by simp)
    have h2 := ih fun b hb => h b (by simp [hb])
    simp only [List.map_cons, List.sum_cons]; omega
theorem sum_mul_map {α : Type} (l : List α) (f : α → Nat) (c : Nat) : (l.map fun a => c * f a).sum = c * (l.map f).sum := by
  induction l with
  | nil => simp
  | cons a l ih => simp only [List.map_cons, List.sum_cons, ih, Nat.mul_add]
theorem nparts_kid {d : Nat} {x : Val} {n : List UInt8} {y : Val} (h : (n, y) ∈ x.kids) : nparts d y + 1 ≤ nparts (d + 1) x := by
  have : nparts d y ≤ (x.kids.map fun p => nparts d p.2).sum := by
    generalize x.kids = l at h
    induction l with
    | nil => cases h
    | cons a l ih =>
      simp only [List.map_cons, List.sum_cons]
      rcases List.mem_cons.1 h with rfl | h
      · simp
      · have := ih h; omega
  simp only [nparts]; omega
theorem textV_succ (F : Nat → List UInt8) (can esc : Bool) (d : Nat) (x : Val) : textV F can esc (d + 1) x = ownT F can esc (fun three => kidsT esc three (x.kids.map fun p => (p.1, textV F can esc d p.2))) x := rfl
theorem textV_len {F : Nat → List UInt8} (hF : FloatIs F) (can esc : Bool) (w : World) (ht : Tabs w) : ∀ (d : Nat) (x : Val) (bp kp : Option Addr) (bc kc : Nat), Hangs d w x bp bc kp kc → FitsV d x →
    (textV F can esc (d + 1) x).length + 10000 ≤ 50000 * nparts d x ∧ ∀ three, (joinK ((x.kids.map fun p => (p.1, textV F can esc d p.2)).map (kidT esc three))).length ≤ 50000 * nparts d x := by
  intro d
  induction d with
  | zero =>
    intro x bp kp bc kc hh hf
    have ho := hh.own
    have hk : x.kids = [] := hf.2
    have := ownT_len hF can esc (fun three => kidsT esc three (x.kids.map fun p => (p.1, textV F can esc 0 p.2))) x w ht hf.own ho.2.2.2.1 ho.2.2.2.2.1 ho.2.2.2.2.2.1 2 (by intro b; rw [hk]; cases b <;> simp [kidsT, joinK])
    refine ⟨?_, fun three => ?_⟩
    · rw [textV_succ]; simp only [nparts]; omega
    · rw [hk]; simp [joinK]
  | succ d ih =>
    intro x bp kp bc kc hh hf
    have ho := hh.own
    have hj : ∀ three, (joinK ((x.kids.map fun p => (p.1, textV F can esc (d + 1) p.2)).map (kidT esc three))).length ≤ 50000 * (x.kids.map fun p => nparts d p.2).sum := by
      intro three
      refine Nat.le_trans (joinK_len _) ?_
      rw [List.map_map, List.map_map, ← sum_mul_map]
      refine sum_le_map _ _ _ ?_
      rintro ⟨n, y⟩ hm
      obtain ⟨i, hi⟩ := List.mem_iff_getElem?.1 hm
      obtain ⟨ka, bp', bc', kp', kc', _, _, hy⟩ := hh.kid hi
      obtain ⟨d', hd', htn, hfy⟩ := hf.kid hi
      have hd'' : d = d' := by omega
      subst hd''
      have := (ih y _ _ _ _ hy hfy).1
      have hn := textF_len htn
      have hs := strF_len esc n
      show (kidT esc three (n, textV F can esc (d + 1) y)).length + 1 ≤ 50000 * nparts d y
      unfold kidT
      split <;> simp only [List.length_append, List.length_cons, List.length_nil] <;> omega
    have h1 := hj true
    have h2 := hj false
    have := ownT_len hF can esc (fun three => kidsT esc three (x.kids.map fun p => (p.1, textV F can esc (d + 1) p.2))) x w ht hf.own ho.2.2.2.1 ho.2.2.2.2.1 ho.2.2.2.2.2.1 (2 + 50000 * (x.kids.map fun p => nparts d p.2).sum) (by
      intro b
      have := hj b
      cases b
      · simp only [kidsT, Bool.false_eq_true, if_false, List.length_append, List.length_cons, List.length_nil]; omega
      · simp only [kidsT, if_true, List.length_append, List.length_cons, List.length_nil]; omega)
    refine ⟨?_, fun three => Nat.le_trans (hj three) ?_⟩
    · rw [textV_succ]; simp only [nparts]; omega
    · simp only [nparts]; omega
end Go.Proofs.Tryz
set_option linter.unusedVariables false
namespace Go.Proofs.Tryz
open Go.Vc Go.RowKit
def LongV : Nat → Val → Prop
  | 0, x => x.kind ≠ 15
  | d + 1, x => x.kind ≠ 15 ∧ ∀ n y, (n, y) ∈ x.kids → n ≠ [] ∧ strF true n = 34 :: (n ++ [34]) ∧ LongV d y
theorem LongV.own {d : Nat} {x : Val} (h : LongV d x) : x.kind ≠ 15 := by
  cases d <;> first | exact h | exact h.1
def bytesV : Nat → Val → List UInt8
  | 0, _ => []
  | d + 1, x => bytesT (bytesV d) x
theorem docText_len (s : List UInt8) : (docText s).length = s.length + 5 := by
  simp only [docText, List.length_append, le32_len, List.length_cons, List.length_nil]; omega
theorem bytesT_len (T : Val → List UInt8) (x : Val) (N : Nat) (hbl : x.b.length ≤ 300) (htl : x.text.length ≤ 300) (hml : x.more.length ≤ 300) (hb : (bodyB T x.kids).length ≤ N) : (bytesT T x).length ≤ N + 700 := by
  have h1 := docText_len x.text
  have h2 := le64_len x.bits
  have h3 := le64_len x.high
  have h4 := le64_len (IntKind.u64.wrap x.num)
  unfold bytesT
  repeat' split
  all_goals first | omega | (simp only [List.length_append, List.length_cons, List.length_nil, le32_len, docB]; omega)
theorem bytesV_len : ∀ (d : Nat) (x : Val), FitsV d x → (bytesV (d + 1) x).length + 1000 ≤ 5000 * nparts d x ∧ (bodyB (bytesV d) x.kids).length ≤ 5000 * nparts d x := by
  intro d
  induction d with
  | zero =>
    intro x hf
    have hown := hf.own
    have hk : x.kids = [] := hf.2
    have hb : (bodyB (bytesV 0) x.kids).length ≤ 0 := by rw [hk]; exact Nat.le_refl _
    have := bytesT_len (bytesV 0) x 0 hown.2.2.1 (textF_len hown.1) (textF_len hown.2.1) hb
    refine ⟨?_, by omega⟩
    show (bytesT (bytesV 0) x).length + 1000 ≤ _
    simp only [nparts]; omega
  | succ d ih =>
    intro x hf
    have hown := hf.own
    have hj : (bodyB (bytesV (d + 1)) x.kids).length ≤ 5000 * (x.kids.map fun p => nparts d p.2).sum := by
      unfold bodyB
      rw [List.length_flatMap, ← sum_mul_map]
      refine sum_le_map _ _ _ ?_
      rintro ⟨n, y⟩ hm
      obtain ⟨i, hi⟩ := List.mem_iff_getElem?.1 hm
      obtain ⟨d', hd', htn, hfy⟩ := hf.kid hi
      have hd'' : d = d' := by omega
      subst hd''
      have := (ih y hfy).1
      have hn := textF_len htn
      show (elemB (bytesV (d + 1)) (n, y)).length ≤ 5000 * nparts d y
      simp only [elemB, List.length_append, List.length_cons, List.length_nil]
      omega
    have := bytesT_len (bytesV (d + 1)) x _ hown.2.2.1 (textF_len hown.1) (textF_len hown.2.1) hj
    refine ⟨?_, Nat.le_trans hj ?_⟩
    · show (bytesT (bytesV (d + 1)) x).length + 1000 ≤ _
      simp only [nparts]; omega
    · simp only [nparts]; omega
theorem ret17 : ∀ (d : Nat) (x : Val) (bp kp : Option Addr) (bc kc : Nat) (w : World), Hangs d w x bp bc kp kc → FitsV d x → LongV d x → nparts d x ≤ 1000 →
    Adds 17 [.agg ⟨valCells x bp bc kp kc⟩] w.heap.size w (bytesV (d + 1) x) := by
  intro d
  induction d using Nat.strongRecOn with
  | _ d ih =>
  intro x bp kp bc kc w hh hf hl hp
  have ho := hh.own
  have hown := hf.own
  have hlen := bytesV_len d x hf
  refine ret17v (bytesV d) x bp kp bc kc w ho.1 ho.2.1.1 hown.2.2.1 (textF_len hown.1) (textF_len hown.2.1) hl.own fun hk => ⟨ho.2.2.2.2.2.2.2, by omega, fun i n y hi => ?_⟩
  obtain ⟨d', hd', htn, hfy⟩ := hf.kid hi
  subst hd'
  obtain ⟨ka, bp', bc', kp', kc', hka, hrow, hhy⟩ := hh.kid hi
  have hpk := nparts_kid (d := d') (List.mem_of_getElem? hi)
  exact ⟨ka, bp', bc', kp', kc', hka, hrow, textF_len htn, fun w' hk' => ih d' (by omega) y bp' kp' bc' kc' w' (hhy.keeps hk') hfy (hl.2 n y (List.mem_of_getElem? hi)).2.2 (by omega)⟩
end Go.Proofs.Tryz
