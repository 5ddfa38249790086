/- A part of a proof. -/
import Derived.Test.YtfofafjemgfobaaGreatDoorX19
import Derived.Test.YtfofafjemgfobaaGreatDoorX24
import Derived.Test.YtfofafjemgfobaaGreatDoorX25
set_option linter.unusedVariables false
namespace Go.Proofs.Tryz
open Go.Vc Go.RowKit Go.Sort
theorem Bld.keeps {b : Nat} {l : List UInt8} {w w' : World} (h : Bld b l w) (k : Keeps w w') : Bld b l w' := by
  have at_keeps : ∀ {q : Value}, Lib.BuilderAt 128 5 b b q (bc l) w → Lib.BuilderAt 128 5 b b q (bc l) w' := fun x => by
    have hlt := x.lt
    obtain ⟨hB, v, hv, hown, hne⟩ := x
    exact ⟨hB, v, (k.block b hlt).trans hv, hown.kept (row := none) ⟨k.os, k.tape, k.output, k.size, fun j hj _ => k.block j hj⟩ (Classical.em _), hne⟩
  exact h.elim (fun x => .inl (at_keeps x)) (fun x => .inr (at_keeps x))
structure Pre (w : World) : Prop where
  tabs : Tabs w
  esc : EscB w
theorem Pre.keeps {w w' : World} (h : Pre w) (k : Keeps w w') : Pre w' := ⟨h.tabs.keeps k, h.esc.keeps k⟩
def cutV (s : List UInt8) (nx : Int) : Value := .tuple ⟨[.string (mkS (cutX s nx)), .bool (lessT s nx)]⟩
theorem cutV_zero {s : List UInt8} (h : s ≠ []) : cutV s 0 = .tuple ⟨[.string (mkS []), .bool true]⟩ := by
  have h0 := (cutL_le s.length s 0 (Nat.le_refl _)).1
  have hc : cutL s 0 = 0 := by omega
  have hl := List.length_pos_iff.2 h
  unfold cutV
  rw [lessT_true (Int.le_refl 0) (by omega), nT_pos (Int.le_refl 0)]
  unfold cutT
  rw [show (0 : Int).toNat = 0 from rfl, hc, List.take_zero]
def Val52 (F : Nat → List UInt8) (d : Nat) (y : Val) : Prop := ∀ (p : Option Addr) (n c : Nat) (nx : Int) (w : World), Pre w → ReadsB w p (bytesV (d + 1) y) → n = (bytesV (d + 1) y).length → n ≤ c → -1000000 ≤ nx → nx ≤ 1000000 →
    Ret 52 [rawV y.kind p n c, .int .i64 nx] w (cutV (longV F (d + 1) y) nx)
theorem bodyB_drop (T : Val → List UInt8) {ks : List (List UInt8 × Val)} {k : Nat} {n : List UInt8} {y : Val} (h : ks[k]? = some (n, y)) : bodyB T (ks.drop k) = elemV n y (T y) ++ bodyB T (ks.drop (k + 1)) := by
  obtain ⟨hk, hp⟩ := List.getElem?_eq_some_iff.1 h
  rw [List.drop_eq_getElem_cons hk, hp]
  rfl
theorem bodyB_drop_le (T : Val → List UInt8) (ks : List (List UInt8 × Val)) (k : Nat) : (bodyB T (ks.drop k)).length ≤ (bodyB T ks).length := by
  have e : bodyB T ks = bodyB T (ks.take k) ++ bodyB T (ks.drop k) := by
    unfold bodyB
    rw [← List.flatMap_append, List.take_append_drop]
  rw [e, List.length_append]; omega
theorem reads_from {w : World} {p : Option Addr} {a b : List UInt8} {c : Nat} (h : ReadsB w p (a ++ b)) (hc : (a ++ b).length ≤ c) : ReadsB w (slAddr p c a.length 1) b := by
  have := reads_drop h hc a.length
  rwa [List.drop_left] at this
theorem ret85 {F : Nat → List UInt8} (e : Nat) (ks : List (List UInt8 × Val)) (hks : ∀ n y, (n, y) ∈ ks → (0 : UInt8) ∉ n ∧ utf8F (longV F e y) = true ∧ ∃ d, e = d + 1 ∧ GoodB (bytesV d) y ∧ Val52 F d y)
    (hlen : (bodyB (bytesV e) ks).length ≤ 5000000) (s : List UInt8) (hs : s = [91] ++ joinK (ks.map fun q => longV F e q.2) ++ [93]) (hsl : s.length ≤ 50000000)
    (p : Option Addr) (n c : Nat) (nx : Int) (w : World) (hw : Pre w) (hr : ReadsB w p (docB (bytesV e) ks)) (hn : n = (docB (bytesV e) ks).length) (hc : n ≤ c) (h0 : -1000000 ≤ nx) (h9 : nx ≤ 1000000) :
    Ret 85 [.slice p n c, .int .i64 nx] w (cutV s nx) := by
  obtain ⟨ps, hps⟩ : ∃ ps, ps = ks.map fun q => longV F e q.2 := ⟨_, rfl⟩
  rw [← hps] at hs
  have hpl : ps.length = ks.length := by rw [hps, List.length_map]
  have hu : ∀ q ∈ ps, utf8F q = true := by
    intro q hq
    rw [hps] at hq
    obtain ⟨⟨m, y⟩, hm, rfl⟩ := List.mem_map.1 hq
    exact (hks m y hm).2.1
  have ho : (91 : UInt8).toNat < 128 := by decide
  have hcl : (93 : UInt8).toNat < 128 := by decide
  have hsu : utf8F s = true := by
    have := mid_utf8 hu ho ps.length
    rw [List.take_length] at this
    rw [hs]; exact utf8F_append this (asc_utf8 _ (asc_dec (by decide)))
  have hsn : s ≠ [] := by rw [hs]; simp
  have e1 : docB (bytesV e) ks = le32 (((bodyB (bytesV e) ks).length : Int) + 5) ++ (bodyB (bytesV e) ks ++ [0]) := by unfold docB; rw [List.append_assoc]
  have el := congrArg List.length e1
  simp only [List.length_append, le32_len, List.length_cons, List.length_nil] at el
  have hrd : ReadsB w (slAddr p c 4 1) (bodyB (bytesV e) ks ++ [0]) := by
    have := reads_from (a := le32 (((bodyB (bytesV e) ks).length : Int) + 5)) (b := bodyB (bytesV e) ks ++ [0]) (c := c) (e1 ▸ hr) (by rw [← e1]; omega)
    rwa [le32_len] at this
  refine Ret.of (c85 p n c nx w _ ?_)
  unfold VC85
  refine (ret73 p n c (((bodyB (bytesV e) ks).length : Int) + 5) (bodyB (bytesV e) ks ++ [0]) w (by omega) (by omega) (e1 ▸ hr) (e1 ▸ hn) hc).go fun w1 hk1 => ⟨_, _, _, _, _, rfl, (fun h => by cases h), fun _ => ⟨fun h => absurd (of_decide_eq_true h) (by omega), fun _ =>
    ⟨((bodyB (bytesV e) ks).length : Int) + 1, by rw [i32w (by omega) (by omega)]; omega, ((bodyB (bytesV e) ks).length : Int), by rw [i32w (by omega) (by omega)]; omega, fun hz => ?_, fun hz => ?_⟩⟩⟩
  · have hz : nx = 0 := of_decide_eq_true hz
    subst hz
    exact ⟨(cutV_zero hsn).symm, hk1⟩
  have hz : nx ≠ 0 := of_decide_eq_false hz
  have hrd1 := hrd.keeps hk1
  have hw1 := hw.keeps hk1
  intro w2 hw2
  have hb2 : Bld w1.heap.size [] w2 := by rw [hw2]; exact Bld.new w1
  have hk2 : Keeps w1 w2 := by rw [hw2]; exact (Keeps.refl w1).alloc _
  refine (hb2.byte 91 (by simp)).mono ?_
  rintro _ w3 ⟨rfl, hb3, hk3⟩
  have hk13 : Keeps w1 w3 := Below.trans hk2 hk3
  refine ⟨rfl, ?_⟩
  intro Kx hK
  have key : ∀ (tr : Bool) (w4 : World) (buf : List UInt8), Bld w1.heap.size buf w4 → Keeps w1 w4 → FinT s 93 nx tr buf → Kx tr w4 := by
    intro tr w4 buf hb4 hk4 hf
    have hbl : buf.length ≤ s.length := by
      rcases hf with ⟨_, h, _⟩ | ⟨_, _, _, h⟩
      · rw [h, List.length_append]; omega
      · rw [h]; unfold cutT; rw [List.length_take]; omega
    have out : ∀ (tr' : Bool) (w5 : World) (l : List UInt8), Bld w1.heap.size l w5 → Keeps w1 w5 → cutX s nx = l → lessT s nx = tr' →
        Calls prog 79 ⟨[.pointer (some (⟨w1.heap.size, 0, none⟩))]⟩ w5 fun e w6 => ∃ x95 : List UInt8, e = .returned (.string (mkS x95)) ∧ (Value.tuple ⟨[.string (mkS x95), .bool tr']⟩ = cutV s nx ∧ Keeps w w6) := by
      intro tr' w5 l hb5 hk5 e1 e2
      refine hb5.out.mono ?_
      rintro _ w6 ⟨rfl, hk6⟩
      exact ⟨_, rfl, by unfold cutV; rw [e1, e2], hk1.trans (Below.trans hk5 hk6)⟩
    refine hK tr w4 ⟨fun h => ?_, fun h => ?_⟩
    · have hneg : nx < 0 := by have := of_decide_eq_true h; omega
      obtain ⟨rfl, hs'⟩ := hf.neg hneg
      refine (hb4.byte 93 (by omega)).mono ?_
      rintro _ w5 ⟨rfl, hb5, hk5⟩
      exact ⟨rfl, out false w5 _ hb5 (Below.trans hk4 hk5) (by rw [nT_neg hneg]; exact hs') (lessT_neg hneg)⟩
    · have hpos : 0 < nx := by have := of_decide_eq_false h; omega
      refine hb4.len.mono ?_
      rintro _ w7 ⟨rfl, rfl⟩
      refine ⟨_, rfl, fun hx => ⟨fun htr => ?_, fun htr => ?_⟩, fun hx => ?_⟩
      · have hx := of_decide_eq_true hx
        cases tr with
        | true => cases htr
        | false =>
          obtain ⟨h1, h2⟩ := hf.room hpos hsu hx
          refine (hb4.byte 93 (by omega)).mono ?_
          rintro _ w5 ⟨rfl, hb5, hk5⟩
          exact ⟨rfl, out false w5 _ hb5 (Below.trans hk4 hk5) h1 h2⟩
      · cases tr with
        | false => cases htr
        | true =>
          obtain ⟨h1, h2⟩ := hf.full hpos hsu hcl (.inl rfl)
          exact out true w7 _ hb4 hk4 h1 h2
      · have hx := of_decide_eq_false hx
        obtain ⟨h1, h2⟩ := hf.full hpos hsu hcl (.inr (by omega))
        exact out true w7 _ hb4 hk4 h1 h2
  refine ⟨fun m length rem rem_n rem_c tr first w' => Keeps w1 w' ∧ ∃ (k : Nat) (buf : List UInt8), Bld w1.heap.size buf w' ∧ MidT s 91 93 ps nx k tr buf ∧ m = ks.length - k ∧ length = ((bodyB (bytesV e) (ks.drop k)).length : Int) ∧
      ReadsB w1 rem (bodyB (bytesV e) (ks.drop k) ++ [0]) ∧ rem_n = (bodyB (bytesV e) (ks.drop k) ++ [0]).length ∧ rem_n ≤ rem_c ∧ first = decide (k = 0),
    ⟨ks.length, hk13, 0, [91], hb3, MidT.start hz, rfl, rfl, hrd1, by rw [List.drop_zero, List.length_append]; simp only [List.length_cons, List.length_nil]; omega, by omega, rfl⟩, ?_⟩
  rintro m length rem rem_n rem_c tr first w12 ⟨hk12, k, buf, hbl, hmid, rfl, rfl, hrr, hrn, hrc, rfl⟩
  have hkle : k ≤ ks.length := by rw [← hpl]; exact hmid.1
  have hbufl : buf.length ≤ s.length := by
    rcases hmid.2 with ⟨_, h, _⟩ | ⟨_, _, _, h⟩
    · rw [h, hs]
      have := joinK_take_le ps k
      simp only [List.length_append, List.length_cons, List.length_nil]; omega
    · rw [h]; unfold cutT; rw [List.length_take]; omega
  refine ⟨fun hpos => ⟨fun htr => ?_, fun htr => ?_⟩, fun hpos => ?_⟩
  · cases tr with
    | true => cases htr
    | false =>
    have hpos := of_decide_eq_true hpos
    have hlt : k < ks.length := by
      rcases Nat.lt_or_ge k ks.length with h | h
      · exact h
      · rw [List.drop_eq_nil_of_le h] at hpos; have hz0 : (bodyB (bytesV e) []).length = 0 := rfl; omega
    rcases hny : ks[k]'hlt with ⟨nm, y⟩
    have hget : ks[k]? = some (nm, y) := by rw [List.getElem?_eq_getElem hlt, hny]
    obtain ⟨hz0, hyu, d, rfl, hgood, h52⟩ := hks nm y (List.mem_of_getElem? hget)
    have hp : ps[k]? = some (longV F (d + 1) y) := by rw [hps, List.getElem?_map, hget]; rfl
    have hV : bytesT (bytesV d) y = bytesV (d + 1) y := rfl
    have hdr := bodyB_drop (bytesV (d + 1)) hget
    have hdl := congrArg List.length hdr
    rw [List.length_append, elemV_len] at hdl
    have hdle := bodyB_drop_le (bytesV (d + 1)) ks k
    rw [hdr, List.append_assoc] at hrr hrn
    have hrn' := hrn
    rw [List.length_append, List.length_append, elemV_len] at hrn'
    simp only [List.length_cons, List.length_nil] at hrn'
    have hel := elemV_len nm y (bytesV (d + 1) y)
    have hk8 := kind_byte hgood.right
    intro K1 hK1
    have k1 : ∀ (need : Int) (w13 : World), Keeps w1 w13 → Bld w1.heap.size buf w13 → ((nx < 0 ∧ need = -1) ∨ (0 < need ∧ need = nx - (buf.length : Int) ∧ 0 < nx)) → K1 need w13 := by
      intro need w13 hk13' hb13 hneed
      refine hK1 need w13 ?_
      intro K2 hK2
      have k2 : ∀ (need' : Int) (w14 : World), Keeps w1 w14 → Bld w1.heap.size (buf ++ comma k) w14 → ((nx < 0 ∧ need' < 0) ∨ (0 < need' ∧ need' = nx - ((buf ++ comma k).length : Int))) → -1 ≤ need' → need' ≤ 1000000 → K2 need' w14 := by
        intro need' w14 hk14 hb14 hneed' hm0 hm9
        refine hK2 need' w14 ?_
        refine (ret76 (bytesV d) nm y (bytesV (d + 1) y) (bodyB (bytesV (d + 1)) (ks.drop (k + 1)) ++ [0]) hV rem rem_n rem_c w14 hgood hz0 (hrr.keeps hk14) hrn hrc (by omega)).go fun w15 hk15 => ?_
        refine ⟨_, _, _, _, _, _, _, rfl, _, i32w (by omega) (by omega), ((bodyB (bytesV (d + 1)) (ks.drop (k + 1))).length : Int), by rw [i32w (by omega) (by omega)]; omega, (fun h => by cases h), fun _ => ⟨fun h => absurd (of_decide_eq_true h) (by omega), fun _ => ?_⟩⟩
        have hk15' := hk14.trans hk15
        have hre := (hrr.keeps hk15').left
        refine (ret145 (bytesV d) nm y (bytesV (d + 1) y) hV rem (elemV nm y (bytesV (d + 1) y)).length rem_c w15 hgood hz0 hk8 hre rfl (by omega) (by omega)).go fun w16 hk16 => ⟨_, rfl, ?_⟩
        have hk16' := hk15'.trans hk16
        have hrv : ReadsB w16 (slAddr rem rem_c (nm.length + 2) 1) (bytesV (d + 1) y) := by
          have := reads_from (a := [b8 y.kind] ++ nm ++ [0]) (b := bytesV (d + 1) y) (c := rem_c) (hre.keeps hk16) (by have : ([b8 y.kind] ++ nm ++ [0] ++ bytesV (d + 1) y).length = nm.length + 2 + (bytesV (d + 1) y).length := elemV_len nm y _; omega)
          have e3 : ([b8 y.kind] ++ nm ++ [0] : List UInt8).length = nm.length + 2 := by simp
          rwa [e3] at this
        refine (h52 (slAddr rem rem_c (nm.length + 2) 1) (bytesV (d + 1) y).length (rem_c - (nm.length + 2)) need' w16 (hw1.keeps hk16') hrv rfl (by omega) (by omega) hm9).go fun w17 hk17 => ⟨_, _, rfl, ?_⟩
        have hb17 := ((hb14.keeps hk15).keeps hk16).keeps hk17
        have hnl := nT_len (longV F (d + 1) y) need'
        have hmn := hmid.next hs hu ho hp hneed'
        have hyl : (longV F (d + 1) y).length ≤ s.length := by
          obtain ⟨rest, hj⟩ := joinK_parts hp
          have := congrArg List.length (hs.trans (by rw [hj]))
          simp only [List.length_append] at this
          omega
        refine (hb17.str (cutX (longV F (d + 1) y) need') (by have : (comma k).length ≤ 1 := by { unfold comma; split <;> simp }; rw [List.length_append]; omega)).mono ?_
        rintro _ w18 ⟨rfl, hb18, hk18⟩
        refine ⟨_, rfl, ks.length - (k + 1), by omega, Below.trans (hk16'.trans hk17) hk18, k + 1, _, hb18, hmn, rfl, rfl, reads_from (hrr) (by rw [← hrn]; exact hrc), ?_, by omega, ?_⟩
        · rw [hrn, List.length_append]; omega
        · rw [decide_eq_false (by omega)]
      refine ⟨fun hf => ?_, fun hf => ?_⟩
      · have hk0 : k ≠ 0 := by
          intro h; subst h; cases hf
        have hco : comma k = [44] := by unfold comma; rw [if_neg hk0]
        refine (hb13.byte 44 (by omega)).mono ?_
        rintro _ w18 ⟨rfl, hb18, hk18⟩
        have hk18' : Keeps w1 w18 := Below.trans hk13' hk18
        refine ⟨rfl, fun hp0 => ?_, fun hp0 => ?_⟩
        · have hp0 := of_decide_eq_true hp0
          rcases hneed with ⟨_, h⟩ | ⟨_, hne, hnx⟩
          · omega
          refine ⟨need - 1, i64w (by omega) (by omega), fun h1 => ?_, fun h1 => ?_⟩
          · have h1 := of_decide_eq_true h1
            exact key true w18 _ hb18 hk18' (hmid.full1 hs hu ho (by omega) hk0 hnx (by omega))
          · have h1 := of_decide_eq_false h1
            exact k2 _ w18 hk18' (hco ▸ hb18) (.inr ⟨by omega, by rw [hco, List.length_append]; simp only [List.length_cons, List.length_nil]; omega⟩) (by omega) (by omega)
        · have hp0 := of_decide_eq_false hp0
          rcases hneed with ⟨hnx, h⟩ | ⟨h, _, _⟩
          · exact k2 _ w18 hk18' (hco ▸ hb18) (.inl ⟨hnx, by omega⟩) (by omega) (by omega)
          · omega
      · have hk0 : k = 0 := by
          rcases Nat.eq_zero_or_pos k with h | h
          · exact h
          · rw [decide_eq_false (by omega)] at hf; cases hf
        have hco : comma k = [] := by unfold comma; rw [if_pos hk0]
        refine k2 need w13 hk13' (by rw [hco, List.append_nil]; exact hb13) ?_ (by omega) (by omega)
        rcases hneed with ⟨h1, h2⟩ | ⟨h1, h2, _⟩
        · exact .inl ⟨h1, by omega⟩
        · exact .inr ⟨h1, by rw [hco, List.append_nil]; exact h2⟩
    refine ⟨fun hp0 => ?_, fun hp0 => ?_⟩
    · have hp0 := of_decide_eq_true hp0
      refine hbl.len.mono ?_
      rintro _ w19 ⟨rfl, rfl⟩
      refine ⟨_, rfl, fun hx => ?_, fun hx => ?_⟩
      · have hx := of_decide_eq_true hx
        exact key true w19 buf hbl hk12 (hmid.full hs hu ho (by omega) hp0 hx)
      · have hx := of_decide_eq_false hx
        refine hbl.len.mono ?_
        rintro _ w20 ⟨rfl, rfl⟩
        exact ⟨_, rfl, nx - (buf.length : Int), i64w (by omega) (by omega), k1 _ w20 hk12 hbl (.inr ⟨by omega, rfl, hp0⟩)⟩
    · have hp0 := of_decide_eq_false hp0
      exact k1 (-1) w12 hk12 hbl (.inl ⟨by omega, rfl⟩)
  · cases tr with
    | false => cases htr
    | true => exact key true w12 buf hbl hk12 hmid.cut
  · have hpos := of_decide_eq_false hpos
    have hke : k = ps.length := by
      rcases Nat.lt_or_ge k ks.length with h | h
      · rcases hny : ks[k]'h with ⟨nm, y⟩
        have hget : ks[k]? = some (nm, y) := by rw [List.getElem?_eq_getElem h, hny]
        have hdl := congrArg List.length (bodyB_drop (bytesV e) hget)
        rw [List.length_append, elemV_len] at hdl
        omega
      · omega
    exact key tr w12 buf hbl hk12 (hmid.stop hs hu ho hke)
end Go.Proofs.Tryz
