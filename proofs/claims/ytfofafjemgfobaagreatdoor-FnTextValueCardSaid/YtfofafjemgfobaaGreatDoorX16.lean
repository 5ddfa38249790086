/- Parts of a proof, joined: A19, VP, B5. -/
import Derived.Test.YtfofafjemgfobaaGreatDoorX15
import Derived.Test.YtfofafjemgfobaaGreatDoorX4
set_option linter.unusedVariables false
namespace Go.Proofs.Tryz
open Go.Vc Go.RowKit Go.Sort
theorem ret9 {F : Nat → List UInt8} (hF : FloatIs F) (can esc : Bool) : ∀ (d : Nat) (x : Val) (bp kp : Option Addr) (bc kc : Nat) (w : World), Tabs w → Hangs d w x bp bc kp kc → FitsV d x → RightV d x → nparts d x ≤ 1000 →
    Ret 9 [.agg ⟨valCells x bp bc kp kc⟩, .bool can, .bool esc] w (.tuple ⟨[.string (mkS (textV F can esc (d + 1) x)), .bool true]⟩) := by
  intro d
  induction d using Nat.strongRecOn with
  | _ d ih =>
  intro x bp kp bc kc w ht hh hf hr hp
  have ho := hh.own
  have hown := hf.own
  obtain ⟨hlen1, hlen2⟩ := textV_len hF can esc w ht d x bp kp bc kc hh hf
  have hright : OwnRight x := by cases d <;> first | exact hr | exact hr.1
  refine Ret.of (c9 _ _ _ _ _ _ _ _ _ _ _ _ can esc w _ ?_)
  unfold VC9
  intro w1 hw1 w2 hw2
  have hk1 : Keeps w w1 := by rw [hw1]; exact (Keeps.refl w).alloc _
  have hv1 : Var w1 w.heap.size 26 (valCells x bp bc kp kc) := by rw [hw1]; exact var_alloc w _ 26
  have hk2 : Keeps w1 w2 := by rw [hw2]; exact (Keeps.refl w1).alloc _
  have hve : Var w2 w1.heap.size 4 [.bool esc] := by rw [hw2]; exact var_alloc w1 _ 4
  have hv2 := hv1.keeps hk2
  have hk02 := hk1.trans hk2
  have ce : ∀ w', Keeps w2 w' → w'.cell? ⟨w1.heap.size, 0, none⟩ = some (.bool esc) := fun w' hk' => (hve.keeps hk').lies.at 0 rfl rfl
  clear hw1 hw2
  have htl := textF_len hown.1
  have htm := textF_len hown.2.1
  have hsl := strF_len esc x.text
  have hsm := strF_len esc x.more
  have hbl := hown.2.2.1
  have hidl := idF_len x.b
  have h64l := b64F_len _ x.b (Nat.le_refl _)
  have hnl := decNum_len' x.num ho.2.2.2.1.1 ho.2.2.2.1.2
  have etext := textV_succ F can esc d x
  generalize htv : textV F can esc (d + 1) x = tv at *
  have fin : ∀ s w', Keeps w w' → tv = s → (Value.tuple ⟨[.string (mkS s), .bool true]⟩ = .tuple ⟨[.string (mkS tv), .bool true]⟩ ∧ Keeps w w') := fun s w' hk hs => by rw [hs]; exact ⟨rfl, hk⟩
  have wrap : ∀ name s w', Keeps w w' → name.length + s.length ≤ 4611686018427387904 → tv = wrapF name s → Calls prog 25 ⟨[.string (mkS name), .string (mkS s)]⟩ w' fun e w6 => ∃ x37 : List UInt8, ∃ x37_1 : Bool, e = .returned (.tuple ⟨[.string (mkS x37), .bool x37_1]⟩) ∧
        (Value.tuple ⟨[.string (mkS x37), .bool x37_1]⟩ = .tuple ⟨[.string (mkS tv), .bool true]⟩ ∧ Keeps w w6) := fun name s w' hk hl hs =>
    (ret25 name s w' hl).go fun w6 hk6 => ⟨_, _, rfl, fin _ _ (hk.trans hk6) hs⟩
  have kidsCall : (x.kind = 3 ∨ x.kind = 4 ∨ x.kind = 15) → ∀ (z : Val) (bpz : Option Addr) (bcz : Nat) (w' : World), z.kids = x.kids → z.kind = 3 ∨ z.kind = 4 → Keeps w w' →
      Ret 30 [.agg ⟨valCells z bpz bcz kp kc⟩, .bool can, .bool esc] w' (.tuple ⟨[.string (mkS (kidsT esc (decide (z.kind = 3)) (x.kids.map fun p => (p.1, textV F can esc d p.2)))), .bool true]⟩) := by
    intro hx z bpz bcz w' hz hzk hkw
    rw [← hz]
    refine ret30 (textV F can esc d) z bpz kp bcz kc can esc w' hzk (by rw [hz]; exact ho.2.2.2.2.2.2.2) (fun i n y hi => ?_) (by rw [hz]; exact Nat.le_trans (hlen2 _) (by omega)) (fun n y hm => ?_)
    · rw [hz] at hi
      obtain ⟨d', hd', htn, hfy⟩ := hf.kid hi
      subst hd'
      obtain ⟨ka, bp', bc', kp', kc', hka, hrow, hhy⟩ := (hh.keeps hkw).kid hi
      have hpk := nparts_kid (d := d') (List.mem_of_getElem? hi)
      refine ⟨ka, bp', bc', kp', kc', hka, hrow, textF_len htn, fun w'' hk'' => ?_⟩
      exact ih d' (by omega) y bp' kp' bc' kc' w'' (ht.keeps (hkw.trans hk'')) (hhy.keeps hk'') hfy (hr.2 hx n y (List.mem_of_getElem? hi)) (by omega)
    · rw [hz] at hm
      obtain ⟨i, hi⟩ := List.mem_iff_getElem?.1 hm
      obtain ⟨d', hd', htn, hfy⟩ := hf.kid hi
      subst hd'
      obtain ⟨ka, bp', bc', kp', kc', hka, hrow, hhy⟩ := hh.kid hi
      have hpk := nparts_kid (d := d') hm
      have := (textV_len hF can esc w ht d' y _ _ _ _ hhy hfy).1
      omega
  refine ⟨x.kind, hv2.lies.at 0 rfl rfl, fun h => ?_, fun h1 => ⟨fun h => ?_, fun h2 => ?_⟩⟩
  · have h : x.kind = 1 := of_decide_eq_true h
    have e : tv = num1F F can x.bits.toNat := by rw [etext]; simp [ownT, h]
    have hdl := dblF_len hF x.bits.toNat w ht
    refine ⟨x.bits, hv2.lies.at 4 rfl rfl, x.bits.toNat, w2, frombits _ _, ?_⟩
    refine (ret27 hF _ (by have := ho.2.2.2.2.1; unfold inU64 at this; omega) w2 (ht.keeps hk02)).go fun w4 hk4 => ⟨_, rfl, ?_⟩
    intro Kx hK
    have key : ∀ b w5, Keeps w2 w5 → b = (can || nanB x.bits.toNat || inf0B x.bits.toNat) → Kx b w5 := by
      intro b w5 hk5 hb
      refine hK b w5 ⟨fun hbt => ⟨by simp; omega, by simp; omega, wrap _ _ w5 (hk02.trans hk5) (by simp; omega) ?_⟩, fun hbf => fin _ _ (hk02.trans hk5) ?_⟩
      · rw [e, num1F, if_pos (by rw [← hb, hbt])]
      · rw [e, num1F, if_neg (by rw [← hb, hbf]; decide)]
    refine ⟨fun hc => key true _ hk4 (by rw [hc]; rfl), fun hc => ?_⟩
    exact (ret28 _ w4).go fun w7 hk7 => ⟨_, rfl, fun hn => key true _ (hk4.trans hk7) (by rw [hc, hn]; rfl), fun hn => (ret29z _ w7).go fun w8 hk8 => ⟨_, rfl, key _ _ ((hk4.trans hk7).trans hk8) (by rw [hc, hn]; rfl)⟩⟩
  · have h : x.kind = 2 := of_decide_eq_true h
    have e : tv = strF esc x.text := by rw [etext]; simp [ownT, h]
    exact ⟨x.text, hv2.lies.at 1 rfl rfl, (ret23 x.text _ esc w2 (by omega) (ce w2 (Keeps.refl _))).go fun w9 hk9 => ⟨_, rfl, fin _ _ (hk02.trans hk9) e⟩⟩
  · intro Kx hK
    have h1 : ¬ x.kind = 1 := of_decide_eq_false h1
    have h2 : ¬ x.kind = 2 := of_decide_eq_false h2
    have key : ∀ b : Bool, (b = true ↔ x.kind = 3 ∨ x.kind = 4) → Kx b w2 := by
      intro b hb
      refine hK b w2 ⟨fun hbt => ?_, fun hbf => ?_⟩
      · have h34 := hb.1 hbt
        have e : tv = kidsT esc (decide (x.kind = 3)) (x.kids.map fun p => (p.1, textV F can esc d p.2)) := by
          rw [etext]; rcases h34 with h | h <;> simp [ownT, h]
        exact ⟨_, _, _, _, _, _, _, _, _, _, _, _, hv2.lies.row n26, esc, ce w2 (Keeps.refl _), (kidsCall (by omega) x bp bc w2 rfl h34 hk02).go fun w11 hk11 => ⟨_, _, rfl, fin _ _ (hk02.trans hk11) e⟩⟩
      · have h34 : ¬ (x.kind = 3 ∨ x.kind = 4) := fun e => by rw [hb.2 e] at hbf; cases hbf
        have h3 : ¬ x.kind = 3 := fun e => h34 (.inl e)
        have h4 : ¬ x.kind = 4 := fun e => h34 (.inr e)
        have kept := hv2.lies.kept
        have mem : ∀ (j : Nat) (v : Value), (valCells x bp bc kp kc)[j]? = some v → ((⟨w.heap.size, j, none⟩ : Addr), v) ∈ rowFacts w.heap.size 0 (valCells x bp bc kp kc) := fun j v hj => by
          have := mem_rowFacts (b := w.heap.size) (o := 0) hj
          rwa [Nat.zero_add] at this
        have dr : Keeps w2 w2.drew := (Keeps.refl w2).drew
        refine ⟨fun h => ?_, fun h5 => ⟨fun h => ?_, fun h6 => ⟨fun h => ?_, fun h7 => ⟨fun h => ?_, fun h8 => ⟨fun h => ?_, fun h9 => ⟨fun h => ?_, fun h10 => ⟨fun h => ?_, fun h11 => ⟨fun h => ?_, fun h12 => ⟨fun h => ?_, fun h13 => ⟨fun h => ?_, fun h14 => ⟨fun h => ?_, fun h15 =>
          ⟨fun h => ?_, fun h16 => ⟨fun h => ?_, fun h17 => ⟨fun h => ?_, fun h18 => ⟨fun h => ?_, fun h19 => ⟨fun h => ?_, fun h255 => ⟨fun h => ?_, fun h127 => ?_⟩⟩⟩⟩⟩⟩⟩⟩⟩⟩⟩⟩⟩⟩⟩⟩⟩
        · have h : x.kind = 5 := of_decide_eq_true h
          have hm : (0 : Int) ≤ x.num % 256 ∧ x.num % 256 < 256 := by omega
          have hwr : IntKind.u8.wrap x.num = ((x.num % 256).toNat : Int) := by
            rw [Int.toNat_of_nonneg hm.1]; rfl
          refine ⟨_, kept, bp, x.b.length, bc, mem 6 _ rfl, x.num, mem 3 _ rfl, _, hwr, ?_⟩
          refine (ret31 bp bc x.b w2.drew (fun j b hj => let ⟨a, ha, hc⟩ := ho.1 j b hj; ⟨a, ha, (hk02.trans dr).cell hc⟩) (by omega)).go fun w12 hk12 => ⟨_, rfl, kept_keeps kept (dr.trans hk12), by simp; omega, by simp; omega, ?_⟩
          have h2l := hex2_len (x.num % 256).toNat
          refine (ret32 (x.num % 256).toNat (by omega) w12).go fun w13 hk13 => ⟨_, rfl, by simp; omega, by simp; omega, wrap _ _ w13 (((hk02.trans dr).trans hk12).trans hk13) (by simp; omega) ?_⟩
          rw [etext]; simp [ownT, h]
        · have h : x.kind = 6 := of_decide_eq_true h
          exact wrap _ _ w2 hk02 (by simp) (by rw [etext]; simp [ownT, h])
        · have h : x.kind = 7 := of_decide_eq_true h
          refine ⟨bp, x.b.length, bc, hv2.lies.at 6 rfl rfl, (ret33 bp bc x.b w2 (fun j b hj => let ⟨a, ha, hc⟩ := ho.1 j b hj; ⟨a, ha, hk02.cell hc⟩) (by omega)).go fun w16 hk16 => ⟨_, rfl, wrap _ _ w16 (hk02.trans hk16) (by simp; omega) (by rw [etext]; simp [ownT, h])⟩⟩
        · have h : x.kind = 8 := of_decide_eq_true h
          exact ⟨x.num, hv2.lies.at 3 rfl rfl, fun hb1 => fin _ _ hk02 (by rw [etext]; simp [ownT, h, of_decide_eq_true hb1]), fun hb1 => fin _ _ hk02 (by rw [etext]; simp [ownT, h, of_decide_eq_false hb1])⟩
        · have h : x.kind = 9 := of_decide_eq_true h
          exact ⟨x.num, hv2.lies.at 3 rfl rfl, (ret34 x.num ho.2.2.2.1.1 ho.2.2.2.1.2 w2 (ht.keeps hk02).pow).go fun w18 hk18 => ⟨_, rfl, by simp; omega, by simp; omega, wrap _ _ w18 (hk02.trans hk18) (by simp; omega) (by rw [etext]; simp [ownT, h])⟩⟩
        · have h : x.kind = 10 := of_decide_eq_true h
          exact fin _ _ hk02 (by rw [etext]; simp [ownT, h])
        · have h : x.kind = 11 := of_decide_eq_true h
          refine ⟨_, kept, x.text, mem 1 _ rfl, x.more, mem 2 _ rfl, ?_⟩
          refine (ret23 x.text _ esc w2.drew (by omega) (ce w2.drew dr)).go fun w20 hk20 => ⟨_, rfl, kept_keeps kept (dr.trans hk20), by simp; omega, by simp; omega, ?_⟩
          refine (ret35 x.more w20 (hown.2.2.2.2.2 h).2 (by omega)).go fun w21 hk21 => ⟨_, rfl, ?_⟩
          refine (ret23 x.more _ esc w21 (by omega) (ce w21 ((dr.trans hk20).trans hk21))).go fun w22 hk22 => ⟨_, rfl, by simp; omega, by simp; omega, wrap _ _ w22 (hk02.trans (((dr.trans hk20).trans hk21).trans hk22)) (by simp; omega) ?_⟩
          rw [etext]; simp [ownT, h]
        · have h : x.kind = 12 := of_decide_eq_true h
          refine ⟨_, kept, x.text, mem 1 _ rfl, bp, x.b.length, bc, mem 6 _ rfl, ?_⟩
          refine (ret23 x.text _ esc w2.drew (by omega) (ce w2.drew dr)).go fun w20 hk20 => ⟨_, rfl, kept_keeps kept (dr.trans hk20), by simp; omega, by simp; omega, ?_⟩
          refine (ret33 bp bc x.b w20 (fun j b hj => let ⟨a, ha, hc⟩ := ho.1 j b hj; ⟨a, ha, (hk02.trans (dr.trans hk20)).cell hc⟩) (by omega)).go fun w21 hk21 => ⟨_, rfl, by simp; omega, by simp; omega, wrap _ _ w21 (hk02.trans ((dr.trans hk20).trans hk21)) (by simp; omega) ?_⟩
          rw [etext]; simp [ownT, h]
        · have h : x.kind = 13 := of_decide_eq_true h
          exact ⟨x.text, hv2.lies.at 1 rfl rfl, (ret23 x.text _ esc w2 (by omega) (ce w2 (Keeps.refl _))).go fun w9 hk9 => ⟨_, rfl, wrap _ _ w9 (hk02.trans hk9) (by simp; omega) (by rw [etext]; simp [ownT, h])⟩⟩
        · have h : x.kind = 14 := of_decide_eq_true h
          exact ⟨x.text, hv2.lies.at 1 rfl rfl, (ret23 x.text _ esc w2 (by omega) (ce w2 (Keeps.refl _))).go fun w9 hk9 => ⟨_, rfl, wrap _ _ w9 (hk02.trans hk9) (by simp; omega) (by rw [etext]; simp [ownT, h])⟩⟩
        · have h : x.kind = 15 := of_decide_eq_true h
          have e : tv = [123, 34, 36, 99, 111, 100, 101, 34, 58] ++ strF esc x.text ++ [44, 34, 36, 115, 99, 111, 112, 101, 34, 58] ++ kidsT esc true (x.kids.map fun p => (p.1, textV F can esc d p.2)) ++ [125] := by rw [etext]; simp [ownT, h]
          have hel := congrArg List.length e
          simp only [List.length_append, List.length_cons, List.length_nil] at hel
          refine ⟨kp, x.kids.length, kc, hv2.lies.at 7 rfl rfl, esc, ce w2 (Keeps.refl _), ?_⟩
          refine (kidsCall (by omega) (.mk 3 [] [] 0 0 0 [] x.kids) none 0 w2 rfl (.inl rfl) hk02).go fun w31 hk31 => ⟨_, _, rfl, x.text, (hv2.keeps hk31).lies.at 1 rfl rfl, ?_⟩
          refine (ret23 x.text _ esc w31 (by omega) (ce w31 hk31)).go fun w32 hk32 => ⟨_, rfl, ?_⟩
          have hd3 : decide ((Val.mk 3 [] [] 0 0 0 [] x.kids).kind = 3) = true := rfl
          rw [hd3]
          exact ⟨by simp; omega, by simp; omega, by simp only [List.length_append, List.length_cons, List.length_nil]; omega, by simp only [List.length_append, List.length_cons, List.length_nil]; omega, fin _ _ (hk02.trans (hk31.trans hk32)) e⟩
        · have h : x.kind = 16 := of_decide_eq_true h
          refine ⟨fun hc => ⟨x.num, hv2.lies.at 3 rfl rfl, (ret34 x.num ho.2.2.2.1.1 ho.2.2.2.1.2 w2 (ht.keeps hk02).pow).go fun w18 hk18 => ⟨_, rfl, by simp; omega, by simp; omega, wrap _ _ w18 (hk02.trans hk18) (by simp; omega) (by rw [etext]; simp [ownT, h, hc])⟩⟩,
            fun hc => ⟨x.num, hv2.lies.at 3 rfl rfl, (ret34 x.num ho.2.2.2.1.1 ho.2.2.2.1.2 w2 (ht.keeps hk02).pow).go fun w18 hk18 => ⟨_, rfl, fin _ _ (hk02.trans hk18) (by rw [etext]; simp [ownT, h, hc])⟩⟩⟩
        · have h : x.kind = 17 := of_decide_eq_true h
          have hb0 := ho.2.2.2.2.1
          obtain ⟨B, hB⟩ : ∃ B : Nat, x.bits = B := ⟨x.bits.toNat, by unfold inU64 at hb0; omega⟩
          have hBl : B < 18446744073709551616 := by unfold inU64 at hb0; omega
          have q1 := decF_len64 (B / 2 ^ 32) (Nat.lt_of_le_of_lt (Nat.div_le_self _ _) hBl)
          have q2 := decF_len64 (B % 2 ^ 32) (Nat.lt_of_le_of_lt (Nat.mod_le _ _) hBl)
          refine ⟨_, kept, x.bits, mem 4 _ rfl, by decide, ((B / 2 ^ 32 : Nat) : Int), by rw [hB]; exact fdiv_nat B 32, x.bits, mem 4 _ rfl, ((B % 2 ^ 32 : Nat) : Int), by rw [hB]; exact u64_mask B 32 hBl (by decide), ?_⟩
          refine (ret36 (B / 2 ^ 32) (Nat.lt_of_le_of_lt (Nat.div_le_self _ _) hBl) w2.drew (ht.keeps (hk02.trans dr)).pow).go fun w36 hk36 => ⟨_, rfl, kept_keeps kept (dr.trans hk36), by simp only [List.length_cons, List.length_nil]; omega, by simp only [List.length_append, List.length_cons, List.length_nil]; omega, ?_⟩
          refine (ret36 (B % 2 ^ 32) (Nat.lt_of_le_of_lt (Nat.mod_le _ _) hBl) w36 (ht.keeps (hk02.trans (dr.trans hk36))).pow).go fun w37 hk37 => ⟨_, rfl, by simp only [List.length_append, List.length_cons, List.length_nil]; omega, by simp only [List.length_append, List.length_cons, List.length_nil]; omega, wrap _ _ w37 (hk02.trans ((dr.trans hk36).trans hk37)) (by simp only [List.length_append, List.length_cons, List.length_nil]; omega) ?_⟩
          rw [etext]; simp [ownT, h, hB]
        · have h : x.kind = 18 := of_decide_eq_true h
          refine ⟨fun hc => ⟨x.num, hv2.lies.at 3 rfl rfl, (ret34 x.num ho.2.2.2.1.1 ho.2.2.2.1.2 w2 (ht.keeps hk02).pow).go fun w18 hk18 => ⟨_, rfl, by simp; omega, by simp; omega, wrap _ _ w18 (hk02.trans hk18) (by simp; omega) (by rw [etext]; simp [ownT, h, hc])⟩⟩,
            fun hc => ⟨x.num, hv2.lies.at 3 rfl rfl, (ret34 x.num ho.2.2.2.1.1 ho.2.2.2.1.2 w2 (ht.keeps hk02).pow).go fun w18 hk18 => ⟨_, rfl, fin _ _ (hk02.trans hk18) (by rw [etext]; simp [ownT, h, hc])⟩⟩⟩
        · have h : x.kind = 19 := of_decide_eq_true h
          have hb0 := ho.2.2.2.2.1
          have hh0 := ho.2.2.2.2.2.1
          obtain ⟨B, hB⟩ : ∃ B : Nat, x.bits = B := ⟨x.bits.toNat, by unfold inU64 at hb0; omega⟩
          obtain ⟨H, hH⟩ : ∃ H : Nat, x.high = H := ⟨x.high.toNat, by unfold inU64 at hh0; omega⟩
          have hBl : B < 18446744073709551616 := by unfold inU64 at hb0; omega
          have hHl : H < 18446744073709551616 := by unfold inU64 at hh0; omega
          have dk := decOf_ok H B hHl hBl
          have q1 := decTextF_len _ dk.2.1 dk.2.2.1 dk.2.2.2
          have e : tv = wrapF [36, 110, 117, 109, 98, 101, 114, 68, 101, 99, 105, 109, 97, 108] ([34] ++ decTextF (decOf H B) ++ [34]) := by rw [etext]; simp [ownT, h, hB, hH]
          refine ⟨x.high, hv2.lies.at 5 rfl rfl, x.bits, hv2.lies.at 4 rfl rfl, ?_⟩
          rw [hH, hB]
          refine (ret38 H B hHl hBl w2).go fun w42 hk42 => ⟨_, rfl, ?_⟩
          refine (ret37 (decOf H B) w42 dk.1 dk.2.1 (by omega) dk.2.2.2).go fun w43 hk43 => ⟨_, rfl, ?_⟩
          generalize decTextF (decOf H B) = s at *
          exact ⟨by simp; omega, by simp; omega, wrap _ _ w43 (hk02.trans (hk42.trans hk43)) (by simp; omega) e⟩
        · have h : x.kind = 255 := of_decide_eq_true h
          exact wrap _ _ w2 hk02 (by simp) (by rw [etext]; simp [ownT, h])
        · have h : x.kind = 127 := of_decide_eq_true h
          exact wrap _ _ w2 hk02 (by simp) (by rw [etext]; simp [ownT, h])
        · exfalso
          have hkn := hright.1
          simp only [knownB, Bool.or_eq_true, Bool.and_eq_true, decide_eq_true_eq] at hkn
          simp only [decide_eq_false_iff_not] at *
          omega
    exact ⟨fun h3 => key _ (by rw [h3]; simp [of_decide_eq_true h3]), fun h3 => key _ (by have := of_decide_eq_false h3; simp [this])⟩
end Go.Proofs.Tryz
set_option linter.unusedVariables false
set_option maxRecDepth 100000
namespace Go.Proofs.Tryz
open Go.Vc
def VC12 (bu : Int) (bv : Bs) (bw : Bs) (xN : Int) (bx : Int) (bz : Int) (xB : Ptr) (ca cb : Nat) (cc : Ptr) (cd ce : Nat) (w : World) (R : RR) : Prop :=
 ∀ w1, w1 = w.alloc (.cells ⟨[.int .i64 bu, .string (mkS bv), .string (mkS bw), .int .i64 xN, .int .u64 bx, .int .u64 bz, .slice xB ca cb, .slice cc cd ce]⟩ 26) →
 ∃ x12 : Int, w1.cell? ⟨w.heap.size, 0, none⟩ = some (.int .i64 x12) ∧
 (decide (x12 = 3) = true →
 ∃ (x16 : Ptr) (cf cg : Nat), w1.cell? ⟨w.heap.size, 7, none⟩ = some (.slice x16 cf cg) ∧
 ∃ Ix : Nat → Bs → Int → World → Prop, (∃ m_2, Ix m_2 [123] 0 w1) ∧
 ∀ m, ∀ s : Bs, ∀ x18 : Int, ∀ w2, Ix m s x18 w2 →
 (decide (x18 < (cf : Int)) = true →
 ((0 : Int) ≤ x18 ∧ x18 < (cf : Int)) ∧ ∃ aa : Addr, x16 = some aa ∧
 ∃ x22 : Bs, ∃ ab : Int, ∃ ac ad : Bs, ∃ ae af ag : Int, ∃ (bk : Ptr) (ch ci : Nat), ∃ (bl : Ptr) (cj ck : Nat), LoadsRow prog 46 w2 (aa.add (x18.toNat * 9)) [.string (mkS x22), .int .i64 ab, .string (mkS ac), .string (mkS ad), .int .i64 ae, .int .u64 af, .int .u64 ag, .slice bk ch ci, .slice bl cj ck] ∧
 ∀ w3, w3 = w2.alloc (.cells ⟨[.string (mkS []), .int .i64 0, .string (mkS []), .string (mkS []), .int .i64 0, .int .u64 0, .int .u64 0, .slice none 0 0, .slice none 0 0]⟩ 46) →
 ∃ w4, (Instr.storeAt 46 (.pointer (some ⟨w2.heap.size, 0, none⟩)) (.agg ⟨[.string (mkS x22), .int .i64 ab, .string (mkS ac), .string (mkS ad), .int .i64 ae, .int .u64 af, .int .u64 ag, .slice bk ch ci, .slice bl cj ck]⟩)).run prog w3 = .ok () w4 ∧
 ∀ Kx : Bs → World → Prop, (∀ s_1 : Bs, ∀ w5,
 (∃ x28 : Bs, ∃ ah : Int, ∃ ai aj : Bs, ∃ ak al am : Int, ∃ (bm : Ptr) (cl cm : Nat), ∃ (bn : Ptr) (cn co : Nat), LoadsRow prog 46 w5 ⟨w2.heap.size, 0, none⟩ [.string (mkS x28), .int .i64 ah, .string (mkS ai), .string (mkS aj), .int .i64 ak, .int .u64 al, .int .u64 am, .slice bm cl cm, .slice bn cn co] ∧
 Calls prog 44 ⟨[.agg ⟨[.string (mkS x28), .int .i64 ah, .string (mkS ai), .string (mkS aj), .int .i64 ak, .int .u64 al, .int .u64 am, .slice bm cl cm, .slice bn cn co]⟩]⟩ w5 fun e w6 => ∃ x29 : Bs, e = .returned (.string (mkS x29)) ∧
 s_1.length + x29.length ≤ 9223372036854775807 ∧
 ∃ x31 : Int, IntKind.i64.wrap (x18 + 1) = x31 ∧
 ∃ m_1, m_1 < m ∧ Ix m_1 (s_1 ++ x29) x31 w6) → Kx s_1 w5) →
 (decide (0 < x18) = true →
 s.length + [44].length ≤ 9223372036854775807 ∧
 Kx (s ++ [44]) w4) ∧ (decide (0 < x18) = false →
 Kx s w4)) ∧ (decide (x18 < (cf : Int)) = false →
 s.length + [125].length ≤ 9223372036854775807 ∧
 R (.string (mkS (s ++ [125]))) w2)) ∧ (decide (x12 = 3) = false →
 (decide (x12 = 4) = true →
 ∃ (x37 : Ptr) (cp cq : Nat), w1.cell? ⟨w.heap.size, 7, none⟩ = some (.slice x37 cp cq) ∧
 ∃ ao : Nat → Bs → Int → World → Prop, (∃ m_5, ao m_5 [91] 0 w1) ∧
 ∀ m_3, ∀ s_2 : Bs, ∀ x39 : Int, ∀ w7, ao m_3 s_2 x39 w7 →
 (decide (x39 < (cp : Int)) = true →
 ((0 : Int) ≤ x39 ∧ x39 < (cp : Int)) ∧ ∃ ap : Addr, x37 = some ap ∧
 ∃ x43 : Bs, ∃ aq : Int, ∃ ar au : Bs, ∃ av aw ax : Int, ∃ (bo : Ptr) (cr cs : Nat), ∃ (bp : Ptr) (ct cu : Nat), LoadsRow prog 46 w7 (ap.add (x39.toNat * 9)) [.string (mkS x43), .int .i64 aq, .string (mkS ar), .string (mkS au), .int .i64 av, .int .u64 aw, .int .u64 ax, .slice bo cr cs, .slice bp ct cu] ∧
 ∀ w8, w8 = w7.alloc (.cells ⟨[.string (mkS []), .int .i64 0, .string (mkS []), .string (mkS []), .int .i64 0, .int .u64 0, .int .u64 0, .slice none 0 0, .slice none 0 0]⟩ 46) →
 ∃ w9, (Instr.storeAt 46 (.pointer (some ⟨w7.heap.size, 0, none⟩)) (.agg ⟨[.string (mkS x43), .int .i64 aq, .string (mkS ar), .string (mkS au), .int .i64 av, .int .u64 aw, .int .u64 ax, .slice bo cr cs, .slice bp ct cu]⟩)).run prog w8 = .ok () w9 ∧
 ∀ ay : Bs → World → Prop, (∀ s_3 : Bs, ∀ w10,
 (∃ x50 : Int, ∃ az ba : Bs, ∃ bb bc bd : Int, ∃ (bq : Ptr) (cv cw : Nat), ∃ (br : Ptr) (cx cy : Nat), LoadsRow prog 26 w10 ⟨w7.heap.size, 1, none⟩ [.int .i64 x50, .string (mkS az), .string (mkS ba), .int .i64 bb, .int .u64 bc, .int .u64 bd, .slice bq cv cw, .slice br cx cy] ∧
 Calls prog 12 ⟨[.agg ⟨[.int .i64 x50, .string (mkS az), .string (mkS ba), .int .i64 bb, .int .u64 bc, .int .u64 bd, .slice bq cv cw, .slice br cx cy]⟩]⟩ w10 fun e w11 => ∃ x51 : Bs, e = .returned (.string (mkS x51)) ∧
 s_3.length + x51.length ≤ 9223372036854775807 ∧
 ∃ x53 : Int, IntKind.i64.wrap (x39 + 1) = x53 ∧
 ∃ m_4, m_4 < m_3 ∧ ao m_4 (s_3 ++ x51) x53 w11) → ay s_3 w10) →
 (decide (0 < x39) = true →
 s_2.length + [44].length ≤ 9223372036854775807 ∧
 ay (s_2 ++ [44]) w9) ∧ (decide (0 < x39) = false →
 ay s_2 w9)) ∧ (decide (x39 < (cp : Int)) = false →
 s_2.length + [93].length ≤ 9223372036854775807 ∧
 R (.string (mkS (s_2 ++ [93]))) w7)) ∧ (decide (x12 = 4) = false →
 ∃ x57 : Int, ∃ be bf : Bs, ∃ bg bh bi : Int, ∃ (bs : Ptr) (cz da : Nat), ∃ (bt : Ptr) (db dc : Nat), LoadsRow prog 26 w1 ⟨w.heap.size, 0, none⟩ [.int .i64 x57, .string (mkS be), .string (mkS bf), .int .i64 bg, .int .u64 bh, .int .u64 bi, .slice bs cz da, .slice bt db dc] ∧
 Calls prog 9 ⟨[.agg ⟨[.int .i64 x57, .string (mkS be), .string (mkS bf), .int .i64 bg, .int .u64 bh, .int .u64 bi, .slice bs cz da, .slice bt db dc]⟩, .bool true, .bool true]⟩ w1 fun e w12 => ∃ x58 : Bs, ∃ bj : Bool, e = .returned (.tuple ⟨[.string (mkS x58), .bool bj]⟩) ∧
 R (.string (mkS x58)) w12))
def an12 : Ann :=
 .k .z
 (.k (.k (.t [.q, .s [.int .i64]])
 (.block (.k .z
 (.cond 1 2 (.k .z
 (.k (.k (.t [.q, .s [.slice]])
 (.block (.loop [(3, .str), (18, .int .i64)] [16, 17] (.k .z
 (.k (.cond 3 4 .l .l)
 (.k (.block (.k (.t [.q, .s [], .s [.str, .int .i64, .str, .str, .int .i64, .int .u64, .int .u64, .slice, .slice]])
 (.cut [(3, .str)] [5, 16, 17, 18] (.k .z
 (.cond 5 6 .z .l))
 (.t [.q, .s [.str, .int .i64, .str, .str, .int .i64, .int .u64, .int .u64, .slice, .slice], .s [.str]]))))
 .z))))))
 .zl)) (.k .z
 (.cond 7 8 (.k .z
 (.k (.k (.t [.q, .s [.slice]])
 (.block (.loop [(6, .str), (39, .int .i64)] [37, 38] (.k .z
 (.k (.cond 9 10 .l .l)
 (.k (.block (.k (.t [.q, .s [], .s [.str, .int .i64, .str, .str, .int .i64, .int .u64, .int .u64, .slice, .slice]])
 (.cut [(6, .str)] [8, 37, 38, 39] (.k .z
 (.cond 11 12 .z .l))
 (.t [.q, .q, .s [.int .i64, .str, .str, .int .i64, .int .u64, .int .u64, .slice, .slice], .s [.str]]))))
 .z))))))
 .zl)) .l))))))
 (.k (.t [.s [.int .i64, .str, .str, .int .i64, .int .u64, .int .u64, .slice, .slice], .s [.str, .bool]])
 .zl))
theorem c12 (aa : Int) (ab : Bs) (ac : Bs) (xN : Int) (ad : Int) (ae : Int) (xB : Ptr) (af ag : Nat) (ah : Ptr) (ai aj : Nat) (w : World) (R : RR) (hvc : VC12 aa ab ac xN ad ae xB af ag ah ai aj w R) : CR 12 [.agg ⟨[.int .i64 aa, .string (mkS ab), .string (mkS ac), .int .i64 xN, .int .u64 ad, .int .u64 ae, .slice xB af ag, .slice ah ai aj]⟩] w R :=
 vcc (fn := f12) (ann := an12) hvc (by kernel_rfl) (by kernel_rfl)
def VC44 (ah : Bs) (ai : Int) (aj : Bs) (ak : Bs) (eVN : Int) (al : Int) (am : Int) (eVB : Ptr) (ao ap : Nat) (aq : Ptr) (ar au : Nat) (w : World) (R : RR) : Prop :=
 ∀ w1, w1 = w.alloc (.cells ⟨[.string (mkS ah), .int .i64 ai, .string (mkS aj), .string (mkS ak), .int .i64 eVN, .int .u64 al, .int .u64 am, .slice eVB ao ap, .slice aq ar au]⟩ 46) →
 ∃ f : List (Addr × Value), Kept w1 f ∧
 ∃ x4 : Bs, (⟨w.heap.size, 0, none⟩, .string (mkS x4)) ∈ f ∧
 [34].length + x4.length ≤ 9223372036854775807 ∧
 ([34] ++ x4).length + [34, 58, 32].length ≤ 9223372036854775807 ∧
 ∃ x8 : Int, ∃ aa ab : Bs, ∃ ac ad ae : Int, ∃ (af : Ptr) (av aw : Nat), ∃ (ag : Ptr) (ax ay : Nat), (cellsOf' prog 26 = some ([.int .i64 x8, .string (mkS aa), .string (mkS ab), .int .i64 ac, .int .u64 ad, .int .u64 ae, .slice af av aw, .slice ag ax ay] : List Value).length ∧ ∀ i v, ([.int .i64 x8, .string (mkS aa), .string (mkS ab), .int .i64 ac, .int .u64 ad, .int .u64 ae, .slice af av aw, .slice ag ax ay] : List Value)[i]? = some v → ((⟨w.heap.size, 1, none⟩ : Addr).add i, v) ∈ f) ∧
 Calls prog 12 ⟨[.agg ⟨[.int .i64 x8, .string (mkS aa), .string (mkS ab), .int .i64 ac, .int .u64 ad, .int .u64 ae, .slice af av aw, .slice ag ax ay]⟩]⟩ w1.drew fun e w2 => ∃ x9 : Bs, e = .returned (.string (mkS x9)) ∧
 Kept w2 f ∧ (([34] ++ x4) ++ [34, 58, 32]).length + x9.length ≤ 9223372036854775807 ∧
 R (.string (mkS ((([34] ++ x4) ++ [34, 58, 32]) ++ x9))) w2
def an44 : Ann :=
 .k .z
 (.k (.reg (.held [] (.take 0 (.q) (.take 1 (.s [.str]) (.take 2 (.q) (.take 3 (.q) (.take 4 (.q) (.take 5 (.s [.int .i64, .str, .str, .int .i64, .int .u64, .int .u64, .slice, .slice]) (.run 6 (.s [.str]) (.take 7 (.q) (.take 8 (.q) .done)) .done)))))))))
 .l)
theorem c44 (aa : Bs) (ab : Int) (ac : Bs) (ad : Bs) (eVN : Int) (ae : Int) (af : Int) (eVB : Ptr) (ag ah : Nat) (ai : Ptr) (aj ak : Nat) (w : World) (R : RR) (hvc : VC44 aa ab ac ad eVN ae af eVB ag ah ai aj ak w R) : CR 44 [.agg ⟨[.string (mkS aa), .int .i64 ab, .string (mkS ac), .string (mkS ad), .int .i64 eVN, .int .u64 ae, .int .u64 af, .slice eVB ag ah, .slice ai aj ak]⟩] w R :=
 vcc (fn := f44) (ann := an44) hvc (by kernel_rfl) (by kernel_rfl)
def VC43 (bd : Int) (be : Bs) (bf : Bs) (xN : Int) (bg : Int) (bh : Int) (xB : Ptr) (bi bj : Nat) (bk : Ptr) (bl bm : Nat) (w : World) (R : RR) : Prop :=
 ∀ w1, w1 = w.alloc (.cells ⟨[.int .i64 bd, .string (mkS be), .string (mkS bf), .int .i64 xN, .int .u64 bg, .int .u64 bh, .slice xB bi bj, .slice bk bl bm]⟩ 26) →
 ∀ Kx : World → Prop, (∀ w2,
 (∀ aa : World → Prop, (∀ w3,
 (∃ (x45 : Ptr) (bn bo : Nat), w3.cell? ⟨w.heap.size, 7, none⟩ = some (.slice x45 bn bo) ∧
 ∃ Ix : Nat → Int → World → Prop, (∃ m_2, Ix m_2 0 w3) ∧
 ∀ m, ∀ x47 : Int, ∀ w4, Ix m x47 w4 →
 (decide (x47 < (bn : Int)) = true →
 ((0 : Int) ≤ x47 ∧ x47 < (bn : Int)) ∧ ∃ ab : Addr, x45 = some ab ∧
 ∃ x50 : Bs, ∃ ac : Int, ∃ ad ae : Bs, ∃ af ag ah : Int, ∃ (ax : Ptr) (bp bq : Nat), ∃ (ay : Ptr) (br bs : Nat), LoadsRow prog 46 w4 (ab.add (x47.toNat * 9)) [.string (mkS x50), .int .i64 ac, .string (mkS ad), .string (mkS ae), .int .i64 af, .int .u64 ag, .int .u64 ah, .slice ax bp bq, .slice ay br bs] ∧
 ∀ w5, w5 = w4.alloc (.cells ⟨[.string (mkS []), .int .i64 0, .string (mkS []), .string (mkS []), .int .i64 0, .int .u64 0, .int .u64 0, .slice none 0 0, .slice none 0 0]⟩ 46) →
 ∃ w6, (Instr.storeAt 46 (.pointer (some ⟨w4.heap.size, 0, none⟩)) (.agg ⟨[.string (mkS x50), .int .i64 ac, .string (mkS ad), .string (mkS ae), .int .i64 af, .int .u64 ag, .int .u64 ah, .slice ax bp bq, .slice ay br bs]⟩)).run prog w5 = .ok () w6 ∧
 ∃ f : List (Addr × Value), Kept w6 f ∧
 ∃ x52 : Bs, (⟨w4.heap.size, 0, none⟩, .string (mkS x52)) ∈ f ∧
 (decide (x52 = []) = true →
 Kept w6.drew f ∧ R (.bool false) w6.drew) ∧ (decide (x52 = []) = false →
 ∃ x56 : Bs, (⟨w4.heap.size, 0, none⟩, .string (mkS x56)) ∈ f ∧
 ∃ x59 : Bs, (⟨w4.heap.size, 0, none⟩, .string (mkS x59)) ∈ f ∧
 [34].length + x59.length ≤ 9223372036854775807 ∧
 ([34] ++ x59).length + [34].length ≤ 9223372036854775807 ∧
 Calls prog 24 ⟨[.string (mkS x56), .bool true]⟩ w6.drew fun e w7 => ∃ x57 : Bs, e = .returned (.string (mkS x57)) ∧
 Kept w7 f ∧ ((!decide (x57 = (([34] ++ x59) ++ [34]))) = true →
 R (.bool false) w7) ∧ ((!decide (x57 = (([34] ++ x59) ++ [34]))) = false →
 ∃ x66 : Int, ∃ ai aj : Bs, ∃ ak al am : Int, ∃ (az : Ptr) (bt bu : Nat), ∃ (ba : Ptr) (bv bw : Nat), (cellsOf' prog 26 = some ([.int .i64 x66, .string (mkS ai), .string (mkS aj), .int .i64 ak, .int .u64 al, .int .u64 am, .slice az bt bu, .slice ba bv bw] : List Value).length ∧ ∀ i v, ([.int .i64 x66, .string (mkS ai), .string (mkS aj), .int .i64 ak, .int .u64 al, .int .u64 am, .slice az bt bu, .slice ba bv bw] : List Value)[i]? = some v → ((⟨w4.heap.size, 1, none⟩ : Addr).add i, v) ∈ f) ∧
 Calls prog 43 ⟨[.agg ⟨[.int .i64 x66, .string (mkS ai), .string (mkS aj), .int .i64 ak, .int .u64 al, .int .u64 am, .slice az bt bu, .slice ba bv bw]⟩]⟩ w7 fun e w8 => ∃ x67 : Bool, e = .returned (.bool x67) ∧
 ((!x67) = true →
 R (.bool false) w8) ∧ ((!x67) = false →
 ∃ x70 : Int, IntKind.i64.wrap (x47 + 1) = x70 ∧
 ∃ m_1, m_1 < m ∧ Ix m_1 x70 w8)))) ∧ (decide (x47 < (bn : Int)) = false →
 R (.bool true) w4)) → aa w3) →
 ∃ x27 : Int, w2.cell? ⟨w.heap.size, 0, none⟩ = some (.int .i64 x27) ∧
 (decide (x27 = 1) = true →
 ∃ x30 : Int, ∃ ao ap : Bs, ∃ aq ar au : Int, ∃ (bb : Ptr) (bx bz : Nat), ∃ (bc : Ptr) (ca cb : Nat), LoadsRow prog 26 w2 ⟨w.heap.size, 0, none⟩ [.int .i64 x30, .string (mkS ao), .string (mkS ap), .int .i64 aq, .int .u64 ar, .int .u64 au, .slice bb bx bz, .slice bc ca cb] ∧
 Calls prog 9 ⟨[.agg ⟨[.int .i64 x30, .string (mkS ao), .string (mkS ap), .int .i64 aq, .int .u64 ar, .int .u64 au, .slice bb bx bz, .slice bc ca cb]⟩, .bool false, .bool false]⟩ w2 fun e w9 => ∃ x31 : Bs, ∃ av : Bool, e = .returned (.tuple ⟨[.string (mkS x31), .bool av]⟩) ∧
 ∃ aw : Nat → Int → World → Prop, (∃ m_5, aw m_5 0 w9) ∧
 ∀ m_3, ∀ i : Int, ∀ w10, aw m_3 i w10 →
 (decide (i < (x31.length : Int)) = true →
 ∃ x42 : UInt8, ((0 : Int) ≤ i ∧ x31[i.toNat]? = some x42) ∧
 (decide ((x42.toNat : Int) = 69) = true →
 R (.bool false) w10) ∧ (decide ((x42.toNat : Int) = 69) = false →
 ∃ x39 : Int, IntKind.i64.wrap (i + 1) = x39 ∧
 ∃ m_4, m_4 < m_3 ∧ aw m_4 x39 w10)) ∧ (decide (i < (x31.length : Int)) = false →
 aa w10)) ∧ (decide (x27 = 1) = false →
 aa w2)) → Kx w2) →
 ∃ f_1 : List (Addr × Value), Kept w1 f_1 ∧
 ∃ x9 : Int, (⟨w.heap.size, 0, none⟩, .int .i64 x9) ∈ f_1 ∧
 (decide (x9 = 15) = true →
 Kept w1.drew f_1 ∧ R (.bool false) w1.drew) ∧ (decide (x9 = 15) = false →
 ∃ x13 : Int, (⟨w.heap.size, 0, none⟩, .int .i64 x13) ∈ f_1 ∧
 (decide (x13 = 12) = true →
 ∃ x17 : Bs, (⟨w.heap.size, 1, none⟩, .string (mkS x17)) ∈ f_1 ∧
 ∃ x20 : Bs, (⟨w.heap.size, 1, none⟩, .string (mkS x20)) ∈ f_1 ∧
 [34].length + x20.length ≤ 9223372036854775807 ∧
 ([34] ++ x20).length + [34].length ≤ 9223372036854775807 ∧
 Calls prog 24 ⟨[.string (mkS x17), .bool true]⟩ w1.drew fun e w11 => ∃ x18 : Bs, e = .returned (.string (mkS x18)) ∧
 Kept w11 f_1 ∧ ((!decide (x18 = (([34] ++ x20) ++ [34]))) = true →
 R (.bool false) w11) ∧ ((!decide (x18 = (([34] ++ x20) ++ [34]))) = false →
 Kx w11)) ∧ (decide (x13 = 12) = false →
 Kept w1.drew f_1 ∧ Kx w1.drew))
def an43 : Ann :=
 .k .z
 (.cut [] [1] (.k (.reg (.held [] (.take 0 (.q) (.take 1 (.s [.int .i64]) (.take 2 (.q) (.take 3 (.q) (.take 4 (.gs .n 15 16) (.take 5 (.on 16 (.s [.int .i64]) (.q)) (.take 6 (.q) (.take 7 (.q) (.take 8 (.on 16 (.gs .n 17 18) (.q)) (.take 9 (.on 17 (.s [.str]) (.q)) (.take 11 (.q) (.take 12 (.on 17 (.s [.str]) (.q)) (.take 13 (.q) (.take 14 (.q) (.run 10 (.on 17 (.s [.str]) (.q)) (.take 15 (.q) (.take 16 (.q) (.take 17 (.q) .done))) .done)))))))))))))))))
 (.on 18 (.no .l) (.on 17 (.cond 19 20 .zl .l) (.yes .zl))))
 (.cut [] [1] (.k (.t [.q, .s [.int .i64]])
 (.cond 9 10 (.k (.t [.s [.int .i64, .str, .str, .int .i64, .int .u64, .int .u64, .slice, .slice], .s [.str, .bool]])
 (.k .z
 (.block (.loop [(5, .int .i64)] [1, 3] (.k (.k .z
 (.cond 11 12 .l .l))
 (.k (.block (.k .z
 (.cond 13 14 .zl .l)))
 .z)))))) .l))
 (.k (.k (.t [.q, .s [.slice]])
 (.block (.loop [(47, .int .i64)] [45, 46] (.k .z
 (.k (.cond 1 2 .l .l)
 (.k (.block (.k (.t [.s [], .s [.str, .int .i64, .str, .str, .int .i64, .int .u64, .int .u64, .slice, .slice]])
 (.k (.reg (.held [16] (.take 0 (.q) (.take 1 (.s [.str]) (.take 2 (.q) (.take 3 (.q) (.take 4 (.gs .n 3 4) (.take 5 (.on 4 (.s [.str]) (.q)) (.take 7 (.q) (.take 8 (.on 4 (.s [.str]) (.q)) (.take 9 (.q) (.take 10 (.q) (.run 6 (.on 4 (.s [.str]) (.q)) (.take 11 (.q) (.take 12 (.q) (.take 13 (.q) (.take 14 (.on 4 (.gs .n 5 6) (.q)) (.take 15 (.on 6 (.s [.int .i64, .str, .str, .int .i64, .int .u64, .int .u64, .slice, .slice]) (.q)) (.run 16 (.on 6 (.s [.bool]) (.q)) (.take 17 (.q) (.take 18 (.q) .done)) .done)))))) .done)))))))))))))
 (.on 6 (.cond 7 8 .zl .l) (.yes .zl)))))
 .z))))))
 .zl)))
theorem c43 (aa : Int) (ab : Bs) (ac : Bs) (xN : Int) (ad : Int) (ae : Int) (xB : Ptr) (af ag : Nat) (ah : Ptr) (ai aj : Nat) (w : World) (R : RR) (hvc : VC43 aa ab ac xN ad ae xB af ag ah ai aj w R) : CR 43 [.agg ⟨[.int .i64 aa, .string (mkS ab), .string (mkS ac), .int .i64 xN, .int .u64 ad, .int .u64 ae, .slice xB af ag, .slice ah ai aj]⟩] w R :=
 vcc (fn := f43) (ann := an43) hvc (by kernel_rfl) (by kernel_rfl)
def VC11 (ap : Int) (aq : Bs) (ar : Bs) (dN : Int) (au : Int) (av : Int) (dB : Ptr) (aw ax : Nat) (ay : Ptr) (az ba : Nat) (w : World) (R : RR) : Prop :=
 ∀ w1, w1 = w.alloc (.cells ⟨[.int .i64 ap, .string (mkS aq), .string (mkS ar), .int .i64 dN, .int .u64 au, .int .u64 av, .slice dB aw ax, .slice ay az ba]⟩ 26) →
 ∃ x3 : Int, ∃ aa ab : Bs, ∃ ac ad ae : Int, ∃ (ak : Ptr) (bb bc : Nat), ∃ (al : Ptr) (bd be : Nat), LoadsRow prog 26 w1 ⟨w.heap.size, 0, none⟩ [.int .i64 x3, .string (mkS aa), .string (mkS ab), .int .i64 ac, .int .u64 ad, .int .u64 ae, .slice ak bb bc, .slice al bd be] ∧
 Calls prog 8 ⟨[.agg ⟨[.int .i64 x3, .string (mkS aa), .string (mkS ab), .int .i64 ac, .int .u64 ad, .int .u64 ae, .slice ak bb bc, .slice al bd be]⟩]⟩ w1 fun e w2 => ∃ x4 : Bool, e = .returned (.bool x4) ∧
 (x4 = true →
 ∃ x6 : Int, ∃ af ag : Bs, ∃ ah ai aj : Int, ∃ (am : Ptr) (bf bg : Nat), ∃ (ao : Ptr) (bh bi : Nat), LoadsRow prog 26 w2 ⟨w.heap.size, 0, none⟩ [.int .i64 x6, .string (mkS af), .string (mkS ag), .int .i64 ah, .int .u64 ai, .int .u64 aj, .slice am bf bg, .slice ao bh bi] ∧
 Calls prog 43 ⟨[.agg ⟨[.int .i64 x6, .string (mkS af), .string (mkS ag), .int .i64 ah, .int .u64 ai, .int .u64 aj, .slice am bf bg, .slice ao bh bi]⟩]⟩ w2 fun e w3 => ∃ x7 : Bool, e = .returned (.bool x7) ∧
 R (.bool x7) w3) ∧ (x4 = false →
 R (.bool false) w2)
def an11 : Ann :=
 .k .z
 (.k (.t [.s [.int .i64, .str, .str, .int .i64, .int .u64, .int .u64, .slice, .slice], .s [.bool], .q, .gs (.sh [.int .i64, .str, .str, .int .i64, .int .u64, .int .u64, .slice, .slice]) 1 2, .on 2 (.q) (.s [.bool])])
 .l)
theorem c11 (aa : Int) (ab : Bs) (ac : Bs) (dN : Int) (ad : Int) (ae : Int) (dB : Ptr) (af ag : Nat) (ah : Ptr) (ai aj : Nat) (w : World) (R : RR) (hvc : VC11 aa ab ac dN ad ae dB af ag ah ai aj w R) : CR 11 [.agg ⟨[.int .i64 aa, .string (mkS ab), .string (mkS ac), .int .i64 dN, .int .u64 ad, .int .u64 ae, .slice dB af ag, .slice ah ai aj]⟩] w R :=
 vcc (fn := f11) (ann := an11) hvc (by kernel_rfl) (by kernel_rfl)
def VC15 (s : Bs) (nx : Int) (w : World) (R : RR) : Prop :=
 ∃ Ix : Nat → Int → World → Prop, (∃ m_2, Ix m_2 0 w) ∧
 ∀ m, ∀ atx : Int, ∀ w1, Ix m atx w1 →
 (decide (atx < (s.length : Int)) = true →
 (0 ≤ atx ∧ atx ≤ (s.length : Int)) ∧
 Calls prog 48 ⟨[.string (mkS (s.drop atx.toNat))]⟩ w1 fun e w2 => ∃ x16 aa : Int, e = .returned (.tuple ⟨[.int .i64 x16, .int .i64 aa]⟩) ∧
 (decide (x16 = 0) = true →
 (0 ≤ atx ∧ atx ≤ (s.length : Int)) ∧
 R (.string (mkS (s.take atx.toNat))) w2) ∧ (decide (x16 = 0) = false →
 ∃ x24 : Int, IntKind.i64.wrap (atx + x16) = x24 ∧
 (decide (nx < x24) = true →
 (0 ≤ atx ∧ atx ≤ (s.length : Int)) ∧
 R (.string (mkS (s.take atx.toNat))) w2) ∧ (decide (nx < x24) = false →
 ∃ x30 : Int, IntKind.i64.wrap (atx + x16) = x30 ∧
 ∃ m_1, m_1 < m ∧ Ix m_1 x30 w2))) ∧ (decide (atx < (s.length : Int)) = false →
 (0 ≤ atx ∧ atx ≤ (s.length : Int)) ∧
 R (.string (mkS (s.take atx.toNat))) w1)
def an15 : Ann :=
 .k .z
 (.k .z
 (.k (.block (.loop [(5, .int .i64)] [0, 1] (.k (.k .z
 (.cond 1 2 .l .l))
 (.block (.k (.t [.q, .q, .q, .s [.int .i64, .int .i64]])
 (.k (.k (.t [.q, .q, .q, .gs .n 3 4])
 (.on 4 (.cond 5 6 .l .l) (.yes .l)))
 .z))))))
 .zl))
theorem c15 (s : Bs) (nx : Int) (w : World) (R : RR) (hvc : VC15 s nx w R) : CR 15 [.string (mkS s), .int .i64 nx] w R :=
 vcc (fn := f15) (ann := an15) hvc (by kernel_rfl) (by kernel_rfl)
def VC16 (ah : Int) (ai : Bs) (aj : Bs) (vN : Int) (ak : Int) (al : Int) (vB : Ptr) (am ao : Nat) (ap : Ptr) (aq ar : Nat) (w : World) (R : RR) : Prop :=
 ∀ w1, w1 = w.alloc (.cells ⟨[.int .i64 ah, .string (mkS ai), .string (mkS aj), .int .i64 vN, .int .u64 ak, .int .u64 al, .slice vB am ao, .slice ap aq ar]⟩ 26) →
 ∀ w2, w2 = w1.alloc (.cells ⟨[.int .i64 0, .string (mkS []), .string (mkS []), .int .i64 0, .int .u64 0, .int .u64 0, .slice none 0 0, .slice none 0 0]⟩ 26) →
 ∃ x3 : Int, ∃ aa ab : Bs, ∃ ac ad ae : Int, ∃ (af : Ptr) (au av : Nat), ∃ (ag : Ptr) (aw ax : Nat), LoadsRow prog 26 w2 ⟨w.heap.size, 0, none⟩ [.int .i64 x3, .string (mkS aa), .string (mkS ab), .int .i64 ac, .int .u64 ad, .int .u64 ae, .slice af au av, .slice ag aw ax] ∧
 ∃ x5 : List Value, (Instr.buildSlice 24 1 ⟨[(0, .agg ⟨[.string (mkS [97]), .int .i64 x3, .string (mkS aa), .string (mkS ab), .int .i64 ac, .int .u64 ad, .int .u64 ae, .slice af au av, .slice ag aw ax]⟩)]⟩).run prog w2 = .ok (.slice (some (⟨w2.heap.size, 0, none⟩)) 1 1) (w2.alloc (.cells ⟨x5⟩ 46)) ∧
 ∃ w4, (Instr.storeAt 26 (.pointer (some ⟨w1.heap.size, 0, none⟩)) (.agg ⟨[.int .i64 3, .string (mkS []), .string (mkS []), .int .i64 0, .int .u64 0, .int .u64 0, .slice none 0 0, .slice (some (⟨w2.heap.size, 0, none⟩)) 1 1]⟩)).run prog (w2.alloc (.cells ⟨x5⟩ 46)) = .ok () w4 ∧
 ∃ r : List Value, LoadsRow prog 26 w4 ⟨w1.heap.size, 0, none⟩ r ∧ R (.agg ⟨r⟩) w4
def an16 : Ann :=
 .k .z
 (.k (.t [.s [.int .i64, .str, .str, .int .i64, .int .u64, .int .u64, .slice, .slice]])
 .l)
theorem c16 (aa : Int) (ab : Bs) (ac : Bs) (vN : Int) (ad : Int) (ae : Int) (vB : Ptr) (af ag : Nat) (ah : Ptr) (ai aj : Nat) (w : World) (R : RR) (hvc : VC16 aa ab ac vN ad ae vB af ag ah ai aj w R) : CR 16 [.agg ⟨[.int .i64 aa, .string (mkS ab), .string (mkS ac), .int .i64 vN, .int .u64 ad, .int .u64 ae, .slice vB af ag, .slice ah ai aj]⟩] w R :=
 vcc (fn := f16) (ann := an16) hvc (by kernel_rfl) (by kernel_rfl)
end Go.Proofs.Tryz
set_option linter.unusedVariables false
namespace Go.Proofs.Tryz
open Go.Vc Go.RowKit Go.Sort
theorem bool_not_not {b : Bool} (h : (!b) = false) : b = true := by cases b <;> first | rfl | cases h
theorem bool_not_not' {b : Bool} (h : (!b) = false) : b = true := bool_not_not h
theorem right_double {d : Nat} {x : Val} (h : x.kind = 1) : RightV d x := by
  have ho : OwnRight x := by
    refine ⟨by rw [h]; decide, fun e => ?_, fun e => ?_, fun e => ?_, fun e => ?_, fun e => ?_⟩
    · rcases e with e | e <;> rw [h] at e <;> cases e
    · rw [h] at e; cases e
    · rw [h] at e; cases e
    · rw [h] at e; cases e
    · rw [h] at e; cases e
  cases d with
  | zero => exact ho
  | succ d => exact ⟨ho, fun e => by rcases e with e | e | e <;> rw [h] at e <;> cases e⟩
def NoEV (F : Nat → List UInt8) : Nat → Val → Prop
  | 0, x => x.kind = 1 → (69 : UInt8) ∉ dblF F x.bits.toNat
  | d + 1, x => (x.kind = 1 → (69 : UInt8) ∉ dblF F x.bits.toNat) ∧ ∀ n y, (n, y) ∈ x.kids → NoEV F d y
theorem NoEV.own {F : Nat → List UInt8} {d : Nat} {x : Val} (h : NoEV F d x) : x.kind = 1 → (69 : UInt8) ∉ dblF F x.bits.toNat := by
  cases d <;> first | exact h | exact h.1
theorem num1_noE {F : Nat → List UInt8} {n : Nat} (h : (69 : UInt8) ∉ num1F F false n) : (69 : UInt8) ∉ dblF F n := by
  intro hm
  apply h
  unfold num1F
  split
  · simp [wrapF, hm]
  · exact hm
theorem ret43 {F : Nat → List UInt8} (hF : FloatIs F) : ∀ (d : Nat) (x : Val) (bp kp : Option Addr) (bc kc : Nat) (w : World), Tabs w → Hangs d w x bp bc kp kc → FitsV d x → nparts d x ≤ 1000 →
    RetB 43 [.agg ⟨valCells x bp bc kp kc⟩] w (fun b => b = true → LongV d x ∧ NoEV F d x) := by
  intro d
  induction d using Nat.strongRecOn with
  | _ d ih =>
  intro x bp kp bc kc w ht hh hf hp
  refine RetB.of (c43 _ _ _ _ _ _ _ _ _ _ _ _ w (fun u w' => ∃ b, u = .bool b ∧ (b = true → LongV d x ∧ NoEV F d x) ∧ Keeps w w') ?_)
  unfold VC43
  intro w1 hw1
  have hk1 : Keeps w w1 := by rw [hw1]; exact (Keeps.refl w).alloc _
  have hv1 : Var w1 w.heap.size 26 (valCells x bp bc kp kc) := by rw [hw1]; exact var_alloc w _ 26
  clear hw1
  have no : ∀ w', Keeps w w' → ∃ b, Value.bool false = .bool b ∧ (b = true → LongV d x ∧ NoEV F d x) ∧ Keeps w w' := fun w' hk => ⟨false, rfl, (fun h => by cases h), hk⟩
  have ho := hh.own
  have hown := hf.own
  have htl := textF_len hown.1
  have kept := hv1.lies.kept
  have mem : ∀ (j : Nat) (v : Value), (valCells x bp bc kp kc)[j]? = some v → ((⟨w.heap.size, j, none⟩ : Addr), v) ∈ rowFacts w.heap.size 0 (valCells x bp bc kp kc) := fun j v hj => by
    have := mem_rowFacts (b := w.heap.size) (o := 0) hj
    rwa [Nat.zero_add] at this
  have dr : Keeps w1 w1.drew := (Keeps.refl w1).drew
  have k1d := hk1.trans dr
  intro Kx hK
  -- the kids
  have tail : x.kind ≠ 15 → ∀ w2, Keeps w1 w2 → Kx w2 := by
    intro h15 w2 hk2
    refine hK w2 ?_
    intro K1 hK1
    have key1 : (x.kind = 1 → (69 : UInt8) ∉ dblF F x.bits.toNat) → ∀ w3, Keeps w1 w3 → K1 w3 := by
      intro hE w3 hk3
      refine hK1 w3 ⟨kp, x.kids.length, kc, (hv1.keeps hk3).lies.at 7 rfl rfl, fun m i w4 => Keeps w1 w4 ∧ ∃ k : Nat, i = k ∧ k ≤ x.kids.length ∧ m = x.kids.length - k ∧ ∀ j n y, j < k → x.kids[j]? = some (n, y) → n ≠ [] ∧ strF true n = 34 :: (n ++ [34]) ∧ ∀ d', d = d' + 1 → LongV d' y ∧ NoEV F d' y,
        ⟨x.kids.length, hk3, 0, rfl, by omega, rfl, fun j n y hj => by omega⟩, ?_⟩
      rintro m i w4 ⟨hk4, k, rfl, hkl, rfl, hdone⟩
      refine ⟨fun hlt => ?_, fun hge => ?_⟩
      · have hlt : k < x.kids.length := by have := of_decide_eq_true hlt; omega
        have hget := List.getElem?_eq_getElem hlt
        rcases hny : x.kids[k]'hlt with ⟨n, y⟩
        rw [hny] at hget
        have hpk : ∀ d', d = d' + 1 → nparts d' y + 1 ≤ nparts d x := fun d' e => by subst e; exact nparts_kid (d := d') (List.mem_of_getElem? hget)
        obtain ⟨d', hd', htn, hfy⟩ := hf.kid hget
        subst hd'
        have hk04 := hk1.trans hk4
        obtain ⟨ka, bp', bc', kp', kc', hka, hrow, hhy⟩ := (hh.keeps hk04).kid hget
        have hnl := textF_len htn
        refine ⟨⟨by omega, by omega⟩, ka, hka, _, _, _, _, _, _, _, _, _, _, _, _, _, hrow, fun w5 hw5 => ?_⟩
        obtain ⟨w6, hst, hk6, hs6, hv6⟩ := store_new (t := 46) (cs := Value.string (mkS n) :: valCells y bp' bc' kp' kc') hw5 n46 rfl rfl rfl
        have hk06 := hk04.trans hk6
        have kept6 := hv6.lies.kept
        have mem6 : ∀ (j : Nat) (v : Value), (Value.string (mkS n) :: valCells y bp' bc' kp' kc')[j]? = some v → ((⟨w4.heap.size, j, none⟩ : Addr), v) ∈ rowFacts w4.heap.size 0 (Value.string (mkS n) :: valCells y bp' bc' kp' kc') := fun j v hj => by
          have := mem_rowFacts (b := w4.heap.size) (o := 0) hj
          rwa [Nat.zero_add] at this
        have dr6 : Keeps w6 w6.drew := (Keeps.refl w6).drew
        refine ⟨w6, hst, _, kept6, n, mem6 0 _ rfl, fun he => ⟨kept_keeps kept6 dr6, no _ (hk06.trans dr6)⟩, fun hne => ⟨n, mem6 0 _ rfl, n, mem6 0 _ rfl, by simp; omega, by simp; omega, ?_⟩⟩
        have hne : n ≠ [] := of_decide_eq_false hne
        refine (ret24 n true w6.drew (by omega)).go fun w7 hk7 => ⟨_, rfl, kept_keeps kept6 (dr6.trans hk7), fun _ => no _ ((hk06.trans dr6).trans hk7), fun hq => ?_⟩
        have hq' : strF true n = 34 :: (n ++ [34]) := by
          have := bool_not_not hq
          simpa using of_decide_eq_true this
        refine ⟨y.kind, y.text, y.more, y.num, y.bits, y.high, bp', y.b.length, bc', kp', y.kids.length, kc', ⟨n26, fun i v hi => by have := mem6 (i + 1) v hi; rw [add_at, Nat.add_comm]; exact this⟩, ?_⟩
        have hk07 := (hk06.trans dr6).trans hk7
        refine (ih d' (by omega) y bp' kp' bc' kc' w7 (ht.keeps hk07) (((hhy.keeps hk6).keeps dr6).keeps hk7) hfy (by have := hpk d' rfl; omega)).go fun b w8 hb hk8 => ⟨b, rfl, fun _ => no _ (hk07.trans hk8), fun hb' => ⟨_, i64w (by omega) (by omega), x.kids.length - (k + 1), by omega, (((hk4.trans hk6).trans dr6).trans hk7).trans hk8, k + 1, by omega, by omega, rfl, ?_⟩⟩
        intro j n' y' hj hjy
        by_cases hjk : j = k
        · subst hjk
          rw [hget] at hjy
          cases hjy
          exact ⟨hne, hq', fun d'' e => by have : d' = d'' := by omega
                                           subst this
                                           exact hb (bool_not_not' hb')⟩
        · exact hdone j n' y' (by omega) hjy
      · have hge := of_decide_eq_false hge
        refine ⟨true, rfl, fun _ => ?_, hk1.trans hk4⟩
        cases d with
        | zero => exact ⟨h15, hE⟩
        | succ d =>
          have one : ∀ n y, (n, y) ∈ x.kids → n ≠ [] ∧ strF true n = 34 :: (n ++ [34]) ∧ LongV d y ∧ NoEV F d y := by
            intro n y hm
            obtain ⟨j, hj⟩ := List.mem_iff_getElem?.1 hm
            have hjl := (List.getElem?_eq_some_iff.1 hj).1
            obtain ⟨a1, a2, a3⟩ := hdone j n y (by omega) hj
            exact ⟨a1, a2, a3 d rfl⟩
          exact ⟨⟨h15, fun n y hm => ⟨(one n y hm).1, (one n y hm).2.1, (one n y hm).2.2.1⟩⟩, hE, fun n y hm => (one n y hm).2.2.2⟩
    refine ⟨x.kind, (hv1.keeps hk2).lies.at 0 rfl rfl, fun h => ?_, fun h => key1 (fun e => absurd e (of_decide_eq_false h)) w2 hk2⟩
    have h : x.kind = 1 := of_decide_eq_true h
    refine ⟨_, _, _, _, _, _, _, _, _, _, _, _, (hv1.keeps hk2).lies.row n26, ?_⟩
    have hk02 := hk1.trans hk2
    refine (ret9 hF false false d x bp kp bc kc w2 (ht.keeps hk02) (hh.keeps hk02) hf (right_double h) hp).go fun w9 hk9 => ⟨_, _, rfl, ?_⟩
    have hlen := (textV_len hF false false w ht d x bp kp bc kc hh hf).1
    have htv : (69 : UInt8) ∉ textV F false false (d + 1) x → (69 : UInt8) ∉ dblF F x.bits.toNat := by
      rw [textV_succ]
      unfold ownT
      rw [if_pos h]
      exact num1_noE
    generalize textV F false false (d + 1) x = tv at *
    refine ⟨fun m i w10 => Keeps w1 w10 ∧ ∃ k : Nat, i = k ∧ k ≤ tv.length ∧ m = tv.length - k ∧ ∀ j b, j < k → tv[j]? = some b → b ≠ 69, ⟨tv.length, hk2.trans hk9, 0, rfl, by omega, rfl, fun j b hj => by omega⟩, ?_⟩
    rintro m i w10 ⟨hk10, k, rfl, hkl, rfl, hno⟩
    refine ⟨fun hlt => ?_, fun hge => key1 (fun _ => htv fun hm => ?_) w10 hk10⟩
    rotate_left
    · have hge := of_decide_eq_false hge
      obtain ⟨j, hj⟩ := List.mem_iff_getElem?.1 hm
      have hjl := (List.getElem?_eq_some_iff.1 hj).1
      exact hno j 69 (by omega) hj rfl
    have hlt : k < tv.length := by have := of_decide_eq_true hlt; omega
    refine ⟨tv[k], ⟨by omega, List.getElem?_eq_getElem hlt⟩, fun _ => no _ (hk1.trans hk10), fun h69 => ⟨_, i64w (by omega) (by omega), tv.length - (k + 1), by omega, hk10, k + 1, by omega, by omega, rfl, fun j b hj hjb => ?_⟩⟩
    by_cases hjk : j = k
    · subst hjk
      rw [List.getElem?_eq_getElem hlt] at hjb
      cases hjb
      intro e
      exact of_decide_eq_false h69 (by rw [e]; rfl)
    · exact hno j b (by omega) hjb
  refine ⟨_, kept, x.kind, mem 0 _ rfl, fun h => ⟨kept_keeps kept dr, no _ k1d⟩, fun h15 => ⟨x.kind, mem 0 _ rfl, fun h12 => ?_, fun h12 => ⟨kept_keeps kept dr, tail (of_decide_eq_false h15) _ dr⟩⟩⟩
  refine ⟨x.text, mem 1 _ rfl, x.text, mem 1 _ rfl, by simp; omega, by simp; omega, ?_⟩
  exact (ret24 x.text true w1.drew (by omega)).go fun w11 hk11 => ⟨_, rfl, kept_keeps kept (dr.trans hk11), fun _ => no _ (k1d.trans hk11), fun _ => tail (of_decide_eq_false h15) _ (dr.trans hk11)⟩
end Go.Proofs.Tryz
