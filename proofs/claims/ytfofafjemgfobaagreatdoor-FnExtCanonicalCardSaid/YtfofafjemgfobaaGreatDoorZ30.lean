/- The shortest decimal in the form of 'G': fmtEFG answers, and always the same. -/
import Derived.Test.YtfofafjemgfobaaGreatDoorZ29
import Derived.Test.YtfofafjemgfobaaGreatDoorZ4
set_option linter.unusedVariables false
namespace Go.Proofs.Tryz
open Go.Vc Go.RowKit Go.Sort

/-- A byte out of a number, as it is wrapped. -/
def b8 (x : Int) : UInt8 := UInt8.ofNat (IntKind.u8.wrap x).toNat
theorem b8_val (x : Int) : Value.int .u8 (IntKind.u8.wrap x) = .int .u8 ((b8 x).toNat : Int) := by
  have e : IntKind.u8.wrap x = x % 256 := rfl
  unfold b8
  rw [e, u8_toNat_ofNat _ (by omega), Int.toNat_of_nonneg (by omega)]
/-- Bytes that are read from a row of another type's number. -/
def Src (w : World) (s : Option Addr) (l : List UInt8) : Prop := l = [] ∨ ∃ (g t : Nat) (cs : List Value), t ≠ 5 ∧ s = some ⟨g, 0, none⟩ ∧ Var w g t cs ∧ ∀ (j : Nat) (b : UInt8), l[j]? = some b → cs[j]? = some (Value.int .u8 (b.toNat : Int))
theorem Src.tagd {w w' : World} {s : Option Addr} {l : List UInt8} (h : Src w s l) (k : Tagd w w') : Src w' s l := by
  rcases h with h | ⟨g, t, cs, ht, hs, hv, hl⟩
  · exact .inl h
  · exact .inr ⟨g, t, cs, ht, hs, k g t cs ht hv, hl⟩
theorem Src.cell {w : World} {s : Option Addr} {l : List UInt8} (h : Src w s l) {j : Nat} {b : UInt8} (hj : l[j]? = some b) : ∃ g, s = some ⟨g, 0, none⟩ ∧ w.cell? ⟨g, j, none⟩ = some (.int .u8 (b.toNat : Int)) := by
  rcases h with h | ⟨g, t, cs, ht, hs, hv, hl⟩
  · rw [h] at hj; simp at hj
  · exact ⟨g, hs, hv.lies.at j (hl j b hj) (Nat.zero_add j).symm⟩
theorem Src.of {w : World} {g t : Nat} {cs : List Value} {l : List UInt8} (hv : Var w g t cs) (ht : t ≠ 5) (hr : ReadsB w (some ⟨g, 0, none⟩) l) : Src w (some ⟨g, 0, none⟩) l := by
  refine Or.inr ⟨g, t, cs, ht, rfl, hv, fun j b hj => ?_⟩
  have := hr.at hj
  rw [add_at, cell_of_row _ g (0 + j) ⟨cs⟩ t (0, 0) hv] at this
  simpa using this

def signF (neg : Bool) : List UInt8 := if neg then [45] else []
def expF (e : Int) : List UInt8 :=
  if e < 10 then [48, b8 (IntKind.u8.wrap e + 48)]
  else if e < 100 then [b8 (IntKind.u8.wrap (IntKind.i64.wrap (Int.tdiv e 10)) + 48), b8 (IntKind.u8.wrap (Int.tmod e 10) + 48)]
  else [b8 (IntKind.u8.wrap (IntKind.i64.wrap (Int.tdiv e 100)) + 48), b8 (Int.tmod (IntKind.u8.wrap (IntKind.i64.wrap (Int.tdiv e 10))) 10 + 48), b8 (IntKind.u8.wrap (Int.tmod e 10) + 48)]
def midE (l : List UInt8) (nd : Nat) (prec : Int) : List UInt8 :=
  if 0 < prec then
    (let m : Int := if prec + 1 < nd then prec + 1 else nd
    if 1 < m then [46] ++ (l.drop 1).take (m.toNat - 1) ++ List.replicate (prec + 1 - m).toNat 48 else [46] ++ List.replicate prec.toNat 48)
  else []
def exE (dp : Int) (nd : Nat) : Int := if nd = 0 then 0 else dp - 1
def eF (neg : Bool) (l : List UInt8) (dp : Int) (nd : Nat) (prec fmt : Int) : List UInt8 :=
  signF neg ++ [if nd = 0 then 48 else l.headD 0] ++ midE l nd prec ++ [b8 fmt] ++ (if exE dp nd < 0 then 45 :: expF (0 - exE dp nd) else 43 :: expF (exE dp nd))
def intF (l : List UInt8) (dp : Int) (nd : Nat) : List UInt8 :=
  if 0 < dp then
    (let m : Int := if dp < nd then dp else nd
    l.take m.toNat ++ List.replicate (dp - m).toNat 48)
  else [48]
def fracF (l : List UInt8) (dp : Int) (nd : Nat) (prec : Int) : List UInt8 :=
  if 0 < prec then
    (let z : Int := if 0 - dp > 0 then 0 - dp else 0
    let lz : Int := if z < prec then z else prec
    let r : Int := if (nd : Int) - (dp + lz) > 0 then nd - (dp + lz) else 0
    let m : Int := if r < prec - lz then r else prec - lz
    let tz : Int := if prec - lz - m > 0 then prec - lz - m else 0
    [46] ++ List.replicate lz.toNat 48 ++ (l.drop (dp + lz).toNat).take m.toNat ++ List.replicate tz.toNat 48)
  else []
def fF (neg : Bool) (l : List UInt8) (dp : Int) (nd : Nat) (prec : Int) : List UInt8 := signF neg ++ intF l dp nd ++ fracF l dp nd prec
def efgF (neg : Bool) (l : List UInt8) (dp : Int) (nd : Nat) (prec : Int) : List UInt8 :=
  if dp - 1 < -4 ∨ 6 ≤ dp - 1 then eF neg l dp nd ((if nd < prec then (nd : Int) else prec) - 1) 69
  else fF neg l dp nd (if 0 > (if dp < prec then (nd : Int) - dp else prec - dp) then 0 else (if dp < prec then (nd : Int) - dp else prec - dp))

theorem expF_len (e : Int) : (expF e).length ≤ 3 := by
  unfold expF; repeat' split
  all_goals simp

theorem one_lit (x : Int) : [Value.int .u8 (IntKind.u8.wrap x)] = bc [b8 x] := by rw [b8_val]; rfl

/-- 'for range cnt { dst = append(dst, '0') }'. -/
theorem zero_loop {B : Nat} {w : World} {p : Option Addr} {n c : Nat} {acc : List UInt8} (cnt : Int) (h : Own B w p n c acc) (hB : B ≤ w.heap.size) (hlen : acc.length ≤ 1000000) (hc : cnt ≤ 1000000)
    (K : Option Addr → Nat → Nat → World → Prop) (hK : ∀ p' n' c' w', Own B w' p' n' c' (acc ++ List.replicate cnt.toNat 48) → Gr B w w' → K p' n' c' w') :
    ∃ Ix : Nat → Option Addr → Nat → Nat → Int → World → Prop, (∃ m_2, Ix m_2 p n c 0 w) ∧
      ∀ m, ∀ (dst_4 : Option Addr) (dst_4_n dst_4_c : Nat), ∀ x114 : Int, ∀ w23, Ix m dst_4 dst_4_n dst_4_c x114 w23 →
      (decide (x114 < cnt) = true → ∀ w24, w24 = w23.alloc (.cells ⟨[.int .u8 48]⟩ 5) → 
        ∃ (x118 : Option Addr) (x118_n x118_c : Nat), ∃ w25, BuiltinOk prog .append #[23, 23] 23 [false, false] [.slice dst_4 dst_4_n dst_4_c, .slice (some (⟨w23.heap.size, 0, none⟩)) 1 1] w24 (.slice x118 x118_n x118_c) w25 ∧ 
        ∃ x119 : Int, IntKind.i64.wrap (x114 + 1) = x119 ∧ ∃ m_1, m_1 < m ∧ Ix m_1 x118 x118_n x118_c x119 w25) ∧
      (decide (x114 < cnt) = false → K dst_4 dst_4_n dst_4_c w23) := by
  refine ⟨fun m p' n' c' i w' => Gr B w w' ∧ ∃ k : Nat, i = k ∧ k ≤ cnt.toNat ∧ m = cnt.toNat - k ∧ Own B w' p' n' c' (acc ++ List.replicate k 48), ⟨cnt.toNat, Gr.refl _ _, 0, rfl, by omega, rfl, by simpa using h⟩, ?_⟩
  rintro m p' n' c' i w' ⟨hg, k, rfl, hk, rfl, ho⟩
  refine ⟨fun hlt w2 hw2 => ?_, fun hge => ?_⟩
  · have hlt := of_decide_eq_true hlt
    have hB' := Nat.le_trans hB hg.size
    obtain ⟨p2, n2, c2, w3, hr, ho2, hg2⟩ := append_litT (bs := [48]) ho hB' hw2 rfl rfl (by simp; omega) [false, false]
    refine ⟨p2, n2, c2, w3, hr, _, i64w (by omega) (by omega), cnt.toNat - (k + 1), by omega, hg.trans hg2, k + 1, by omega, by omega, rfl, ?_⟩
    rw [List.replicate_succ', ← List.append_assoc]; exact ho2
  · have hge := of_decide_eq_false hge
    have : k = cnt.toNat := by omega
    subst this
    exact hK _ _ _ _ ho hg

set_option maxHeartbeats 4000000 in
theorem ret221 {B : Nat} {w : World} {p : Option Addr} {n c : Nat} {acc : List UInt8} (neg : Bool) (s : Option Addr) (sn sc : Nat) (l : List UInt8) (dp : Int) (nd : Nat) (prec : Int)
    (ho : Own B w p n c acc) (hB : B ≤ w.heap.size) (hs : Src w s l) (hnd : nd ≤ l.length) (hl : l.length ≤ sn) (hsn : sn ≤ sc) (hsc : sc ≤ 100) (hacc : acc.length ≤ 1000)
    (hd0 : -400 ≤ dp) (hd1 : dp ≤ 500) (hp0 : -1 ≤ prec) (hp1 : prec ≤ 40) :
    Calls prog 221 ⟨[.slice p n c, .bool neg, .slice s sn sc, .int .i64 dp, .int .i64 nd, .int .i64 prec, .int .u8 71, .bool true]⟩ w fun e w' =>
      ∃ p' n' c', e = .returned (.slice p' n' c') ∧ Own B w' p' n' c' (acc ++ efgF neg l dp nd prec) ∧ Gr B w w' := by
  have main := c221 p n c neg s sn sc dp nd prec 71 true w (fun v w' => ∃ p' n' c', v = .slice p' n' c' ∧ Own B w' p' n' c' (acc ++ efgF neg l dp nd prec) ∧ Gr B w w') ?_
  · exact main.mono fun e w' ⟨v, he, p', n', c', hv, h⟩ => ⟨p', n', c', by rw [he, hv], h⟩
  unfold VC221
  have hsg : (signF neg).length ≤ 1 := by unfold signF; split <;> simp
  intro Kx hK
  -- the form with an exponent
  have keyE : ∀ pr : Int, -3 ≤ pr → pr ≤ 40 → efgF neg l dp nd prec = eF neg l dp nd pr 69 → Kx pr 69 w := by
    intro pr hq0 hq1 hout
    rw [hout] at hK
    refine hK pr 69 w ?_
    clear hK
    intro K1 hK1
    refine ⟨fun h => absurd (of_decide_eq_true h) (by decide), fun _ => hK1 _ _ ⟨fun _ => ?_, fun h => absurd h (by decide)⟩⟩
    clear hK1
    intro K2 hK2
    have key2 : ∀ p1 n1 c1 w3, Own B w3 p1 n1 c1 (acc ++ signF neg) → Gr B w w3 → K2 p1 n1 c1 w3 := by
      intro p1 n1 c1 w3 ho3 hg3
      refine hK2 p1 n1 c1 w3 ?_
      clear hK2
      intro K3 hK3
      have key3 : ∀ ch : UInt8, ch = (if nd = 0 then 48 else l.headD 0) → K3 (ch.toNat : Int) w3 := by
        intro ch hch
        refine hK3 _ w3 fun w5 hw5 => ?_
        clear hK3
        have hB3 := Nat.le_trans hB hg3.size
        obtain ⟨p6, n6, c6, w6, hr6, ho6, hg6⟩ := append_litT (bs := [ch]) ho3 hB3 hw5 rfl rfl (by simp; omega) [false, false]
        refine ⟨p6, n6, c6, w6, hr6, ?_⟩
        have hg6' := hg3.trans hg6
        have hB6 := Nat.le_trans hB hg6'.size
        intro K4 hK4
        have hmid : ∀ x, x = midE l nd pr → x.length ≤ 100 := by
          intro x hx
          rw [hx]; unfold midE
          simp only []
          repeat' split
          all_goals simp only [List.length_append, List.length_cons, List.length_nil, List.length_take, List.length_drop, List.length_replicate]
          all_goals omega
        have key4 : ∀ p7 n7 c7 w7, Own B w7 p7 n7 c7 (acc ++ signF neg ++ [ch] ++ midE l nd pr) → Gr B w w7 → K4 p7 n7 c7 w7 := by
          intro p7 n7 c7 w7 ho7 hg7
          refine hK4 p7 n7 c7 w7 fun w8 hw8 => ?_
          clear hK4
          have hml := hmid _ rfl
          have hB7 := Nat.le_trans hB hg7.size
          obtain ⟨p9, n9, c9, w9, hr9, ho9, hg9⟩ := append_litT (bs := [b8 69]) ho7 hB7 hw8 rfl rfl (by simp; omega) [false, false]
          refine ⟨p9, n9, c9, w9, hr9, _, i64w (by omega) (by omega), ?_⟩
          have hg9' := hg7.trans hg9
          have hB9 := Nat.le_trans hB hg9'.size
          intro K5 hK5
          have key5 : ∀ ex : Int, ex = exE dp nd → K5 ex w9 := by
            intro ex hex
            have hexr : -401 ≤ ex ∧ ex ≤ 499 := by rw [hex]; unfold exE; split <;> omega
            refine hK5 ex w9 ?_
            clear hK5
            intro K6 hK6
            have key6 : ∀ (ch1 : UInt8) (e1 : Int), 0 ≤ e1 → e1 ≤ 500 → ch1 :: expF e1 = (if exE dp nd < 0 then 45 :: expF (0 - exE dp nd) else 43 :: expF (exE dp nd)) → K6 (ch1.toNat : Int) e1 w9 := by
              intro ch1 e1 he0 he1 hres
              refine hK6 _ e1 w9 fun w12 hw12 => ?_
              clear hK6
              obtain ⟨p13, n13, c13, w13, hr13, ho13, hg13⟩ := append_litT (bs := [ch1]) ho9 hB9 hw12 rfl rfl (by simp; omega) [false, false]
              refine ⟨p13, n13, c13, w13, hr13, ?_⟩
              have hg13' := hg9'.trans hg13
              have hB13 := Nat.le_trans hB hg13'.size
              have fin : ∀ (p' : Option Addr) (n' c' : Nat) (w' : World), Own B w' p' n' c' (acc ++ signF neg ++ [ch] ++ midE l nd pr ++ [b8 69] ++ [ch1] ++ expF e1) → Gr B w13 w' →
                  ∃ p'' n'' c'', Value.slice p' n' c' = .slice p'' n'' c'' ∧ Own B w' p'' n'' c'' (acc ++ eF neg l dp nd pr 69) ∧ Gr B w w' := by
                intro p' n' c' w' ho' hg'
                refine ⟨_, _, _, rfl, ?_, hg13'.trans hg'⟩
                have : acc ++ eF neg l dp nd pr 69 = acc ++ signF neg ++ [ch] ++ midE l nd pr ++ [b8 69] ++ [ch1] ++ expF e1 := by
                  unfold eF
                  rw [← hres, hch]
                  simp [List.append_assoc]
                rw [this]; exact ho'
              refine ⟨fun h10 => ?_, fun h10 => ⟨fun h100 => ?_, fun h100 => ?_⟩⟩
              · have h10 := of_decide_eq_true h10
                refine ⟨_, rfl, _, rfl, fun w14 hw14 => ?_⟩
                have he : expF e1 = [48, b8 (IntKind.u8.wrap e1 + 48)] := by unfold expF; rw [if_pos h10]
                obtain ⟨p15, n15, c15, w15, hr15, ho15, hg15⟩ := append_litT (bs := expF e1) ho13 hB13 hw14 (by rw [he, b8_val]; try rfl) (by rw [he]; try rfl) (by have := expF_len e1; simp; omega) [false, false]
                exact ⟨p15, n15, c15, w15, hr15, fin _ _ _ _ ho15 hg15⟩
              · have h10 := of_decide_eq_false h10
                have h100 := of_decide_eq_true h100
                refine ⟨by decide, _, rfl, _, rfl, _, rfl, by decide, _, rfl, _, rfl, _, rfl, fun w14 hw14 => ?_⟩
                have he : expF e1 = [b8 (IntKind.u8.wrap (IntKind.i64.wrap (Int.tdiv e1 10)) + 48), b8 (IntKind.u8.wrap (Int.tmod e1 10) + 48)] := by unfold expF; rw [if_neg h10, if_pos h100]
                obtain ⟨p15, n15, c15, w15, hr15, ho15, hg15⟩ := append_litT (bs := expF e1) ho13 hB13 hw14 (by rw [he, b8_val, b8_val]; try rfl) (by rw [he]; try rfl) (by have := expF_len e1; simp; omega) [false, false]
                exact ⟨p15, n15, c15, w15, hr15, fin _ _ _ _ ho15 hg15⟩
              · have h10 := of_decide_eq_false h10
                have h100 := of_decide_eq_false h100
                refine ⟨by decide, _, rfl, _, rfl, _, rfl, by decide, _, rfl, _, rfl, by decide, _, rfl, _, rfl, by decide, _, rfl, _, rfl, _, rfl, fun w14 hw14 => ?_⟩
                have he : expF e1 = [b8 (IntKind.u8.wrap (IntKind.i64.wrap (Int.tdiv e1 100)) + 48), b8 (Int.tmod (IntKind.u8.wrap (IntKind.i64.wrap (Int.tdiv e1 10))) 10 + 48), b8 (IntKind.u8.wrap (Int.tmod e1 10) + 48)] := by unfold expF; rw [if_neg h10, if_neg h100]
                obtain ⟨p15, n15, c15, w15, hr15, ho15, hg15⟩ := append_litT (bs := expF e1) ho13 hB13 hw14 (by rw [he, b8_val, b8_val, b8_val]; try rfl) (by rw [he]; try rfl) (by have := expF_len e1; simp; omega) [false, false]
                exact ⟨p15, n15, c15, w15, hr15, fin _ _ _ _ ho15 hg15⟩
            refine ⟨fun hneg => ?_, fun hneg => ?_⟩
            · have hneg := of_decide_eq_true hneg
              exact ⟨0 - ex, i64w (by omega) (by omega), key6 45 _ (by omega) (by omega) (by rw [← hex, if_pos hneg])⟩
            · have hneg := of_decide_eq_false hneg
              exact key6 43 _ (by omega) (by omega) (by rw [← hex, if_neg hneg])
          refine ⟨fun h0 => key5 0 ?_, fun h0 => key5 _ ?_⟩
          · have h0 := of_decide_eq_true h0
            unfold exE; rw [if_pos (by omega)]
          · have h0 := of_decide_eq_false h0
            unfold exE; rw [if_neg (by omega)]
        refine ⟨fun hpr => ?_, fun hpr => ?_⟩
        · have hpr := of_decide_eq_true hpr
          intro w20 hw20
          obtain ⟨p21, n21, c21, w21, hr21, ho21, hg21⟩ := append_litT (bs := [46]) ho6 hB6 hw20 rfl rfl (by simp; omega) [false, false]
          refine ⟨p21, n21, c21, w21, hr21, pr + 1, i64w (by omega) (by omega), _, rfl, ?_⟩
          have hg21' := hg6'.trans hg21
          have hB21 := Nat.le_trans hB hg21'.size
          intro K7 hK7
          have key7 : ∀ p22 n22 c22 (i : Int) w22 acc2, acc2.length ≤ 2000 → 1 ≤ i → i ≤ 50 → Own B w22 p22 n22 c22 acc2 → Gr B w w22 → acc2 ++ List.replicate (pr + 1 - i).toNat 48 = acc ++ signF neg ++ [ch] ++ midE l nd pr → K7 p22 n22 c22 i w22 := by
            intro p22 n22 c22 i w22 acc2 hal hi0 hi1 ho22 hg22 hacc2
            refine hK7 p22 n22 c22 i w22 ⟨pr + 1, i64w (by omega) (by omega), pr + 1 - i, i64w (by omega) (by omega), ?_⟩
            refine zero_loop (pr + 1 - i) ho22 (Nat.le_trans hB hg22.size) (by omega) (by omega) _ fun p' n' c' w' ho' hg' => ?_
            rw [hacc2] at ho'
            exact key4 p' n' c' w' ho' (hg22.trans hg')
          refine ⟨fun hm => ?_, fun hm => ?_⟩
          · have hm := of_decide_eq_true hm
            have hmn : (if pr + 1 < (nd : Int) then pr + 1 else (nd : Int)) ≤ nd := by split <;> omega
            generalize hM : (if pr + 1 < (nd : Int) then pr + 1 else (nd : Int)) = M at *
            have hM1 : M ≤ pr + 1 := by rw [← hM]; split <;> omega
            obtain ⟨b0, hb0⟩ : ∃ b, l[1]? = some b := ⟨_, List.getElem?_eq_getElem (by omega)⟩
            obtain ⟨g, hsg2, _⟩ := hs.cell hb0
            have hsl : slAddr s sc 1 1 = some ⟨g, 1, none⟩ := by
              unfold slAddr
              rw [if_neg (by omega), hsg2]
              simp [add_at]
            have hs21 := hs.tagd hg21'.tagd
            refine ⟨⟨by omega, by omega, by omega⟩, ?_⟩
            have hrd : ReadsB w21 (slAddr s sc 1 1) ((l.drop 1).take (M.toNat - 1)) := by
              intro j b hj
              refine ⟨_, hsl, ?_⟩
              rw [add_at]
              have hj' : l[1 + j]? = some b := by
                rw [List.getElem?_take] at hj
                split at hj
                · rwa [List.getElem?_drop] at hj
                · cases hj
              obtain ⟨g', hg', hcell⟩ := hs21.cell hj'
              rw [hsg2] at hg'
              cases hg'
              exact hcell
            have hlen : ((l.drop 1).take (M.toNat - 1)).length = M.toNat - 1 := by rw [List.length_take, List.length_drop]; omega
            obtain ⟨p26, n26, c26, w26, hr26, ho26, hg26⟩ := append_bytesT (c2 := sc - 1) ho21 hrd hlen.symm (fun e => by rw [hsl] at e; cases e) hB21 (by rw [hlen]; simp only [List.length_append, List.length_cons, List.length_nil]; omega) [false, false]
            refine ⟨p26, n26, c26, w26, hr26, key7 _ _ _ M w26 _ (by rw [List.length_append, hlen]; simp; omega) (by omega) (by omega) ho26 (hg21'.trans hg26) ?_⟩
            have : midE l nd pr = [46] ++ (l.drop 1).take (M.toNat - 1) ++ List.replicate (pr + 1 - M).toNat 48 := by
              unfold midE
              rw [if_pos hpr]
              simp only [hM]
              rw [if_pos hm]
            rw [this]; simp [List.append_assoc]
          · have hm := of_decide_eq_false hm
            refine key7 _ _ _ 1 w21 _ (by simp; omega) (by omega) (by omega) ho21 hg21' ?_
            have : midE l nd pr = [46] ++ List.replicate pr.toNat 48 := by
              unfold midE
              rw [if_pos hpr]
              simp only []
              rw [if_neg hm]
            rw [this, show pr + 1 - 1 = pr by omega]; simp [List.append_assoc]
        · have hpr := of_decide_eq_false hpr
          refine key4 _ _ _ _ ?_ hg6'
          have : midE l nd pr = [] := by unfold midE; rw [if_neg hpr]
          rw [this, List.append_nil]; exact ho6
      refine ⟨fun h0 => ?_, fun h0 => ?_⟩
      · have h0 : nd ≠ 0 := by
          intro e; rw [e] at h0; simp at h0
        obtain ⟨b0, hb0⟩ : ∃ b, l[0]? = some b := ⟨_, List.getElem?_eq_getElem (by omega)⟩
        obtain ⟨g, hsg2, hc0⟩ := (hs.tagd hg3.tagd).cell hb0
        refine ⟨⟨by omega, by omega⟩, ⟨g, 0, none⟩, hsg2, _, hc0, key3 b0 ?_⟩
        rw [if_neg h0]
        cases l with
        | nil => simp at hb0
        | cons x r => simpa using hb0.symm
      · have h0 : nd = 0 := by
          have := h0; simp only [Bool.not_eq_false', decide_eq_true_eq] at this; omega
        exact key3 48 (by rw [if_pos h0])
    refine ⟨fun hn w27 hw27 => ?_, fun hn => key2 _ _ _ w (by rw [hn]; simpa [signF] using ho) (Gr.refl _ _)⟩
    obtain ⟨p28, n28, c28, w28, hr28, ho28, hg28⟩ := append_litT (bs := [45]) ho hB hw27 rfl rfl (by simp; omega) [false, false]
    exact ⟨p28, n28, c28, w28, hr28, key2 _ _ _ w28 (by rw [hn]; exact ho28) hg28⟩
  -- the form without one
  have keyF : ∀ pr : Int, 0 ≤ pr → pr ≤ 600 → -10 ≤ dp → dp ≤ 10 → efgF neg l dp nd prec = fF neg l dp nd pr → Kx pr 102 w := by
    intro pr hq0 hq1 hdp0 hdp1 hout
    rw [hout] at hK
    refine hK pr 102 w ?_
    clear hK keyE
    intro K1 hK1
    refine ⟨fun h => absurd (of_decide_eq_true h) (by decide), fun _ => hK1 _ _ ⟨fun h => absurd h (by decide), fun _ => ⟨fun _ => ?_, fun h => absurd h (by decide)⟩⟩⟩
    clear hK1
    intro K8 hK8
    have hil : (intF l dp nd).length ≤ 100 := by
      unfold intF
      split
      · simp only [List.length_append, List.length_take, List.length_replicate]
        split <;> omega
      · simp
    have key8 : ∀ p1 n1 c1 w3, Own B w3 p1 n1 c1 (acc ++ signF neg) → Gr B w w3 → K8 p1 n1 c1 w3 := by
      intro p1 n1 c1 w3 ho3 hg3
      refine hK8 p1 n1 c1 w3 ?_
      clear hK8
      have hB3 := Nat.le_trans hB hg3.size
      intro K9 hK9
      have key9 : ∀ p30 n30 c30 w30, Own B w30 p30 n30 c30 (acc ++ signF neg ++ intF l dp nd) → Gr B w w30 → K9 p30 n30 c30 w30 := by
        intro p30 n30 c30 w30 ho30 hg30
        refine hK9 p30 n30 c30 w30 ?_
        clear hK9
        have hB30 := Nat.le_trans hB hg30.size
        refine ⟨fun hpr w31 hw31 => ?_, fun hpr => ?_⟩
        · have hpr := of_decide_eq_true hpr
          obtain ⟨p32, n32, c32, w32, hr32, ho32, hg32⟩ := append_litT (bs := [46]) ho30 hB30 hw31 rfl rfl (by simp; omega) [false, false]
          have hg32' := hg30.trans hg32
          have hB32 := Nat.le_trans hB hg32'.size
          have hfr : fracF l dp nd pr = [46] ++ List.replicate (if (if 0 - dp > 0 then 0 - dp else 0) < pr then (if 0 - dp > 0 then 0 - dp else 0) else pr).toNat 48 ++ (l.drop (dp + (if (if 0 - dp > 0 then 0 - dp else 0) < pr then (if 0 - dp > 0 then 0 - dp else 0) else pr)).toNat).take (if (if (nd : Int) - (dp + (if (if 0 - dp > 0 then 0 - dp else 0) < pr then (if 0 - dp > 0 then 0 - dp else 0) else pr)) > 0 then (nd : Int) - (dp + (if (if 0 - dp > 0 then 0 - dp else 0) < pr then (if 0 - dp > 0 then 0 - dp else 0) else pr)) else 0) < pr - (if (if 0 - dp > 0 then 0 - dp else 0) < pr then (if 0 - dp > 0 then 0 - dp else 0) else pr) then (if (nd : Int) - (dp + (if (if 0 - dp > 0 then 0 - dp else 0) < pr then (if 0 - dp > 0 then 0 - dp else 0) else pr)) > 0 then (nd : Int) - (dp + (if (if 0 - dp > 0 then 0 - dp else 0) < pr then (if 0 - dp > 0 then 0 - dp else 0) else pr)) else 0) else pr - (if (if 0 - dp > 0 then 0 - dp else 0) < pr then (if 0 - dp > 0 then 0 - dp else 0) else pr)).toNat ++ List.replicate (if pr - (if (if 0 - dp > 0 then 0 - dp else 0) < pr then (if 0 - dp > 0 then 0 - dp else 0) else pr) - (if (if (nd : Int) - (dp + (if (if 0 - dp > 0 then 0 - dp else 0) < pr then (if 0 - dp > 0 then 0 - dp else 0) else pr)) > 0 then (nd : Int) - (dp + (if (if 0 - dp > 0 then 0 - dp else 0) < pr then (if 0 - dp > 0 then 0 - dp else 0) else pr)) else 0) < pr - (if (if 0 - dp > 0 then 0 - dp else 0) < pr then (if 0 - dp > 0 then 0 - dp else 0) else pr) then (if (nd : Int) - (dp + (if (if 0 - dp > 0 then 0 - dp else 0) < pr then (if 0 - dp > 0 then 0 - dp else 0) else pr)) > 0 then (nd : Int) - (dp + (if (if 0 - dp > 0 then 0 - dp else 0) < pr then (if 0 - dp > 0 then 0 - dp else 0) else pr)) else 0) else pr - (if (if 0 - dp > 0 then 0 - dp else 0) < pr then (if 0 - dp > 0 then 0 - dp else 0) else pr)) > 0 then pr - (if (if 0 - dp > 0 then 0 - dp else 0) < pr then (if 0 - dp > 0 then 0 - dp else 0) else pr) - (if (if (nd : Int) - (dp + (if (if 0 - dp > 0 then 0 - dp else 0) < pr then (if 0 - dp > 0 then 0 - dp else 0) else pr)) > 0 then (nd : Int) - (dp + (if (if 0 - dp > 0 then 0 - dp else 0) < pr then (if 0 - dp > 0 then 0 - dp else 0) else pr)) else 0) < pr - (if (if 0 - dp > 0 then 0 - dp else 0) < pr then (if 0 - dp > 0 then 0 - dp else 0) else pr) then (if (nd : Int) - (dp + (if (if 0 - dp > 0 then 0 - dp else 0) < pr then (if 0 - dp > 0 then 0 - dp else 0) else pr)) > 0 then (nd : Int) - (dp + (if (if 0 - dp > 0 then 0 - dp else 0) < pr then (if 0 - dp > 0 then 0 - dp else 0) else pr)) else 0) else pr - (if (if 0 - dp > 0 then 0 - dp else 0) < pr then (if 0 - dp > 0 then 0 - dp else 0) else pr)) else 0).toNat 48 := by
            unfold fracF
            rw [if_pos hpr]
          refine ⟨p32, n32, c32, w32, hr32, 0 - dp, i64w (by omega) (by omega), _, rfl, _, rfl, ?_⟩
          generalize hz : (if 0 - dp > 0 then 0 - dp else 0) = z at *
          have hz0 : 0 ≤ z ∧ z ≤ 10 := by rw [← hz]; split <;> omega
          have hz1 : 0 - dp ≤ z := by rw [← hz]; split <;> omega
          generalize hlz : (if z < pr then z else pr) = lz at *
          have hlz0 : 0 ≤ lz ∧ lz ≤ pr ∧ lz ≤ z := by rw [← hlz]; split <;> omega
          have hlz1 : lz < pr → lz = z := by rw [← hlz]; split <;> omega
          refine ⟨dp + lz, i64w (by omega) (by omega), pr - lz, i64w (by omega) (by omega), (nd : Int) - (dp + lz), i64w (by omega) (by omega), _, rfl, _, rfl, pr - lz, i64w (by omega) (by omega), ?_⟩
          generalize hr : (if (nd : Int) - (dp + lz) > 0 then (nd : Int) - (dp + lz) else 0) = r at *
          have hr0 : 0 ≤ r ∧ ((nd : Int) - (dp + lz) ≤ r) ∧ (0 < r → r = (nd : Int) - (dp + lz)) ∧ r ≤ 1000 := by rw [← hr]; split <;> omega
          generalize hm : (if r < pr - lz then r else pr - lz) = m at *
          have hm0 : 0 ≤ m ∧ m ≤ r ∧ m ≤ pr - lz := by rw [← hm]; split <;> omega
          refine ⟨pr - lz - m, i64w (by omega) (by omega), _, rfl, ?_⟩
          generalize htz : (if pr - lz - m > 0 then pr - lz - m else 0) = tz at *
          have htz0 : 0 ≤ tz ∧ tz ≤ 1000 := by rw [← htz]; split <;> omega
          refine zero_loop lz ho32 hB32 (by simp; omega) (by omega) _ fun p33 n33 c33 w33 ho33 hg33 => ?_
          have hg33' := hg32'.trans hg33
          have hB33 := Nat.le_trans hB hg33'.size
          -- the digits in the middle
          let A := acc ++ signF neg ++ intF l dp nd ++ [46] ++ List.replicate lz.toNat 48
          have hA : A.length ≤ 3000 := by simp [A]; omega
          refine ⟨fun mm p' n' c' i w' => Gr B w w' ∧ ∃ k : Nat, i = k ∧ k ≤ m.toNat ∧ mm = m.toNat - k ∧ Own B w' p' n' c' (A ++ (l.drop (dp + lz).toNat).take k), ⟨m.toNat, hg33', 0, rfl, by omega, rfl, by simpa [A] using ho33⟩, ?_⟩
          rintro mm p' n' c' i w' ⟨hg', k, rfl, hk, rfl, ho'⟩
          have hB' := Nat.le_trans hB hg'.size
          refine ⟨fun hlt => ?_, fun hge => ?_⟩
          · have hlt := of_decide_eq_true hlt
            have hoff : 0 ≤ dp + lz := by have := hlz1 (by omega); omega
            have hidx : (dp + lz).toNat + k < l.length := by omega
            obtain ⟨b, hb⟩ : ∃ b, l[(dp + lz).toNat + k]? = some b := ⟨_, List.getElem?_eq_getElem hidx⟩
            obtain ⟨g, hsg2, hcell⟩ := (hs.tagd hg'.tagd).cell hb
            have hb' : (l.drop (dp + lz).toNat)[k]? = some b := by rw [List.getElem?_drop]; exact hb
            refine ⟨dp + lz + k, i64w (by omega) (by omega), ⟨by omega, by omega⟩, ⟨g, 0, none⟩, hsg2, (b.toNat : Int), ?_, fun w37 hw37 => ?_⟩
            · rw [add_at, Nat.zero_add, Nat.mul_one, show (dp + lz + (k : Int)).toNat = (dp + lz).toNat + k by omega]; exact hcell
            obtain ⟨p38, n38, c38, w38, hr38, ho38, hg38⟩ := append_litT (bs := [b]) ho' hB' hw37 rfl rfl (by simp; omega) [false, false]
            refine ⟨p38, n38, c38, w38, hr38, _, i64w (by omega) (by omega), m.toNat - (k + 1), by omega, hg'.trans hg38, k + 1, by omega, by omega, rfl, ?_⟩
            rw [take_succ_get _ _ _ hb', ← List.append_assoc]; exact ho38
          · have hge := of_decide_eq_false hge
            have hkm : k = m.toNat := by omega
            subst hkm
            refine zero_loop tz ho' hB' (by rw [List.length_append, List.length_take]; omega) (by omega) _ fun p39 n39 c39 w39 ho39 hg39 => ?_
            refine ⟨_, _, _, rfl, ?_, hg'.trans hg39⟩
            have : acc ++ fF neg l dp nd pr = A ++ (l.drop (dp + lz).toNat).take m.toNat ++ List.replicate tz.toNat 48 := by
              unfold fF
              rw [hfr]
              simp [A, List.append_assoc]
            rw [this]; exact ho39
        · have hpr := of_decide_eq_false hpr
          refine ⟨_, _, _, rfl, ?_, hg30⟩
          have : acc ++ fF neg l dp nd pr = acc ++ signF neg ++ intF l dp nd := by
            unfold fF fracF
            rw [if_neg hpr]
            simp [List.append_assoc]
          rw [this]; exact ho30
      refine ⟨fun hdp => ?_, fun hdp w48 hw48 => ?_⟩
      · have hdp := of_decide_eq_true hdp
        have hin : intF l dp nd = l.take (if dp < (nd : Int) then dp else (nd : Int)).toNat ++ List.replicate (dp - (if dp < (nd : Int) then dp else (nd : Int))).toNat 48 := by unfold intF; rw [if_pos hdp]
        refine ⟨_, rfl, ?_⟩
        generalize hm : (if dp < (nd : Int) then dp else (nd : Int)) = m at *
        have hm0 : 0 ≤ m ∧ m ≤ nd ∧ m ≤ dp := by rw [← hm]; split <;> omega
        refine ⟨⟨by omega, by omega⟩, fun mm p' n' c' i w' => Gr B w w' ∧ ∃ k : Nat, i = k ∧ k ≤ m.toNat ∧ mm = m.toNat - k ∧ Own B w' p' n' c' (acc ++ signF neg ++ l.take k), ⟨m.toNat, hg3, 0, rfl, by omega, rfl, by simpa using ho3⟩, ?_⟩
        rintro mm p' n' c' i w' ⟨hg', k, rfl, hk, rfl, ho'⟩
        have hB' := Nat.le_trans hB hg'.size
        refine ⟨fun hlt => ?_, fun hge => ?_⟩
        · have hlt := of_decide_eq_true hlt
          obtain ⟨b, hb⟩ : ∃ b, l[k]? = some b := ⟨_, List.getElem?_eq_getElem (by omega)⟩
          obtain ⟨g, hsg2, hcell⟩ := (hs.tagd hg'.tagd).cell hb
          refine ⟨⟨by omega, by omega⟩, ⟨g, 0, none⟩, hsg2, _, by rw [add_at, Nat.zero_add, Nat.mul_one, Int.toNat_natCast]; exact hcell, fun w43 hw43 => ?_⟩
          obtain ⟨p44, n44, c44, w44, hr44, ho44, hg44⟩ := append_litT (bs := [b]) ho' hB' hw43 rfl rfl (by simp; omega) [false, false]
          refine ⟨p44, n44, c44, w44, hr44, _, i64w (by omega) (by omega), m.toNat - (k + 1), by omega, hg'.trans hg44, k + 1, by omega, by omega, rfl, ?_⟩
          rw [take_succ_get _ _ _ hb, ← List.append_assoc]; exact ho44
        · have hge := of_decide_eq_false hge
          have hkm : k = m.toNat := by omega
          subst hkm
          refine ⟨dp - m, i64w (by omega) (by omega), ?_⟩
          refine zero_loop (dp - m) ho' hB' (by rw [List.length_append, List.length_take]; simp; omega) (by omega) _ fun p45 n45 c45 w45 ho45 hg45 => ?_
          refine key9 _ _ _ _ ?_ (hg'.trans hg45)
          rw [hin, ← List.append_assoc]; exact ho45
      · have hdp := of_decide_eq_false hdp
        obtain ⟨p49, n49, c49, w49, hr49, ho49, hg49⟩ := append_litT (bs := [48]) ho3 hB3 hw48 rfl rfl (by simp; omega) [false, false]
        refine ⟨p49, n49, c49, w49, hr49, key9 _ _ _ _ ?_ (hg3.trans hg49)⟩
        have : intF l dp nd = [48] := by unfold intF; rw [if_neg hdp]
        rw [this]; exact ho49
    refine ⟨fun hn w50 hw50 => ?_, fun hn => key8 _ _ _ w (by rw [hn]; simpa [signF] using ho) (Gr.refl _ _)⟩
    obtain ⟨p28, n28, c28, w28, hr28, ho28, hg28⟩ := append_litT (bs := [45]) ho hB hw50 rfl rfl (by simp; omega) [false, false]
    exact ⟨p28, n28, c28, w28, hr28, key8 _ _ _ w28 (by rw [hn]; exact ho28) hg28⟩
  clear hK
  -- which of the two
  intro K10 hK10
  refine ⟨fun h => absurd (of_decide_eq_true h) (by decide), fun _ => hK10 _ w ⟨fun _ => ?_, fun h => absurd h (by decide)⟩⟩
  clear hK10
  intro K11 hK11
  have key11 : ∀ ep, K11 ep w := by
    intro ep
    refine hK11 ep w ?_
    clear hK11
    intro K12 hK12
    refine ⟨fun _ => hK12 6 w ⟨dp - 1, i64w (by omega) (by omega), ?_⟩, fun h => absurd h (by decide)⟩
    clear hK12
    intro K13 hK13
    have key13 : ∀ b : Bool, (b = true ↔ (dp - 1 < -4 ∨ 6 ≤ dp - 1)) → K13 b w := by
      intro b hb
      refine hK13 b w ⟨fun hbt => ?_, fun hbf => ?_⟩
      · have hb := hb.1 hbt
        intro K14 hK14
        have key14 : ∀ q : Int, q = (if (nd : Int) < prec then (nd : Int) else prec) → K14 q w := by
          intro q hq
          have hq0 : -1 ≤ q ∧ q ≤ 40 := by rw [hq]; split <;> omega
          exact hK14 q w ⟨q - 1, i64w (by omega) (by omega), 172, rfl, 69, rfl, keyE (q - 1) (by omega) (by omega) (by unfold efgF; rw [if_pos hb, hq])⟩
        exact ⟨fun h => key14 _ (by rw [if_pos (of_decide_eq_true h)]), fun h => key14 _ (by rw [if_neg (of_decide_eq_false h)])⟩
      · have hb : ¬ (dp - 1 < -4 ∨ 6 ≤ dp - 1) := fun e => by rw [hb.2 e] at hbf; cases hbf
        refine ⟨fun h => ?_, fun h => ?_⟩
        · have h := of_decide_eq_true h
          refine ⟨(nd : Int) - dp, i64w (by omega) (by omega), _, rfl, keyF _ ?_ ?_ (by omega) (by omega) (by unfold efgF; rw [if_neg hb]; simp only [if_pos h])⟩ <;> split <;> omega
        · have h := of_decide_eq_false h
          refine ⟨prec - dp, i64w (by omega) (by omega), _, rfl, keyF _ ?_ ?_ (by omega) (by omega) (by unfold efgF; rw [if_neg hb]; simp only [if_neg h])⟩ <;> split <;> omega
    refine ⟨fun h => key13 true ?_, fun h => key13 _ ?_⟩
    · have h := of_decide_eq_true h
      simp only [true_iff]; omega
    · have h := of_decide_eq_false h
      simp only [decide_eq_true_eq]; omega
  exact ⟨fun h => ⟨fun _ => key11 _, fun _ => key11 _⟩, fun h => key11 _⟩
end Go.Proofs.Tryz
