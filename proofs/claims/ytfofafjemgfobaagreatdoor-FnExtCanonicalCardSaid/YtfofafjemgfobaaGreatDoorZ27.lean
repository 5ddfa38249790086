/- Parts of a proof, joined: W18, VN, A19. -/
import Derived.Test.YtfofafjemgfobaaGreatDoorZ26
import Derived.Test.YtfofafjemgfobaaGreatDoorZ4
/- The writer writes a value. -/
set_option linter.unusedVariables false
namespace Go.Proofs.Tryz
open Go.Vc Go.RowKit Go.Sort

/-- An array's elements, from the first to the last, and its end. -/
theorem loop71 (Tx : Val → List UInt8) (N : Val → Nat) {w0 w : World} {a : Nat} {wx : Addr} {esc : Bool} {buf : List UInt8} {t : Int} {ms : List Int} (h : WR w0.heap.size w a wx true esc (buf ++ [91]) (3 :: t :: ms)) (hk : Keeps w0 w)
    (hd : ms.length ≤ 880) (hm1 : 1 ≤ ms.length) (ks : List (List UInt8 × Val)) (kp : Option Addr) (kc : Nat) (hkn : ks.length ≤ 1125899906842624)
    (hl : (buf ++ [91]).length + 50000 * (ks.map fun p => N p.2).sum + 10000 ≤ 1000000000)
    (hkid : ∀ i n y, ks[i]? = some (n, y) → KidW Tx N w0 a wx esc 4 (3 :: t :: ms) kp i n y) (R : Value → World → Prop)
    (hR : ∀ w1, Fr w0.heap.size w w1 → WR w0.heap.size w1 a wx true esc (buf ++ kidsT esc false (ks.map fun p => (p.1, Tx p.2)) ++ [44]) ms → R .nilIface w1) :
      ∃ Ix : Nat → Int → World → Prop, (∃ m_2, Ix m_2 0 w) ∧
      ∀ m, ∀ x46 : Int, ∀ w5, Ix m x46 w5 →
      (decide (x46 < (ks.length : Int)) = true →
        ((0 : Int) ≤ x46 ∧ x46 < (ks.length : Int)) ∧ ∃ x44a : Addr, kp = some x44a ∧ 
          ∃ x49 : List UInt8, ∃ x49_1 : Int, ∃ x49_2 : List UInt8, ∃ x49_3 : List UInt8, ∃ x49_4 : Int, ∃ x49_5 : Int, ∃ x49_6 : Int, ∃ (x49_7 : Option Addr) (x49_7_n x49_7_c : Nat), ∃ (x49_8 : Option Addr) (x49_8_n x49_8_c : Nat), LoadsRow prog 46 w5 (x44a.add (x46.toNat * 9)) [.string (mkS x49), .int .i64 x49_1, .string (mkS x49_2), .string (mkS x49_3), .int .i64 x49_4, .int .u64 x49_5, .int .u64 x49_6, .slice x49_7 x49_7_n x49_7_c, .slice x49_8 x49_8_n x49_8_c] ∧ 
          ∀ w6, w6 = w5.alloc (.cells ⟨[.string (mkS []), .int .i64 0, .string (mkS []), .string (mkS []), .int .i64 0, .int .u64 0, .int .u64 0, .slice none 0 0, .slice none 0 0]⟩ 46) → 
          ∃ w7, (Instr.storeAt 46 (.pointer (some ⟨w5.heap.size, 0, none⟩)) (.agg ⟨[.string (mkS x49), .int .i64 x49_1, .string (mkS x49_2), .string (mkS x49_3), .int .i64 x49_4, .int .u64 x49_5, .int .u64 x49_6, .slice x49_7 x49_7_n x49_7_c, .slice x49_8 x49_8_n x49_8_c]⟩)).run prog w6 = .ok () w7 ∧ 
          Calls prog 127 ⟨[.pointer (some (⟨a, 0, none⟩ : Addr))]⟩ w7 fun e w8 => ∃ x52 : Addr, e = .returned (.tuple ⟨[.iface 70 (.pointer (some x52)), .nilIface]⟩) ∧ 
          ∃ x60 : Int, ∃ x60_1 : List UInt8, ∃ x60_2 : List UInt8, ∃ x60_3 : Int, ∃ x60_4 : Int, ∃ x60_5 : Int, ∃ (x60_6 : Option Addr) (x60_6_n x60_6_c : Nat), ∃ (x60_7 : Option Addr) (x60_7_n x60_7_c : Nat), LoadsRow prog 26 w8 ⟨w5.heap.size, 1, none⟩ [.int .i64 x60, .string (mkS x60_1), .string (mkS x60_2), .int .i64 x60_3, .int .u64 x60_4, .int .u64 x60_5, .slice x60_6 x60_6_n x60_6_c, .slice x60_7 x60_7_n x60_7_c] ∧ 
          Calls prog 71 ⟨[.pointer (some (⟨a, 0, none⟩ : Addr)), .agg ⟨[.int .i64 x60, .string (mkS x60_1), .string (mkS x60_2), .int .i64 x60_3, .int .u64 x60_4, .int .u64 x60_5, .slice x60_6 x60_6_n x60_6_c, .slice x60_7 x60_7_n x60_7_c]⟩]⟩ w8 fun e w9 => e = .returned .nilIface ∧ 
          ∃ x65 : Int, IntKind.i64.wrap (x46 + 1) = x65 ∧ 
          ∃ m_1, m_1 < m ∧ Ix m_1 x65 w9) ∧ (decide (x46 < (ks.length : Int)) = false →
        Calls prog 128 ⟨[.pointer (some (⟨a, 0, none⟩ : Addr))]⟩ w5 fun e w10 => e = .returned .nilIface ∧ 
          R .nilIface w10) := by
  let ps : List (List UInt8 × List UInt8) := ks.map fun p => (p.1, Tx p.2)
  have hps : ps.length = ks.length := by simp [ps]
  refine ⟨fun mm i w1 => Fr w0.heap.size w w1 ∧ ∃ k : Nat, i = k ∧ k ≤ ks.length ∧ mm = ks.length - k ∧ WR w0.heap.size w1 a wx true esc (buf ++ [91] ++ kidsW esc false (ps.take k)) (3 :: t :: ms) ∧
      (buf ++ [91] ++ kidsW esc false (ps.take k)).length + 50000 * ((ks.drop k).map fun p => N p.2).sum + 10000 ≤ 1000000000,
    ⟨ks.length, Fr.refl _ _, 0, rfl, by omega, rfl, by simpa [kidsW] using h, by simpa [kidsW] using hl⟩, ?_⟩
  rintro mm i w1 ⟨hf1, k, rfl, hkl, rfl, hw1, hlen⟩
  refine ⟨fun hlt => ?_, fun hge => ?_⟩
  · have hlt : k < ks.length := by have := of_decide_eq_true hlt; omega
    have hget := List.getElem?_eq_getElem hlt
    rcases hny : ks[k]'hlt with ⟨n, y⟩
    rw [hny] at hget
    have hdrop : ks.drop k = (n, y) :: ks.drop (k + 1) := by rw [List.drop_eq_getElem_cons hlt, hny]
    rw [hdrop, List.map_cons, List.sum_cons] at hlen
    dsimp only at hlen
    have hgetp : ps[k]? = some (n, Tx y) := by simp [ps, hget]
    have hsucc := kidsW_succ esc false ps k _ hgetp
    obtain ⟨ka, bp', bc', kp', kc', hka, hrow, htn, hty, hcall⟩ := hkid k n y hget
    have hk01 := hf1.keep hk
    refine ⟨⟨by omega, by omega⟩, ka, hka, _, _, _, _, _, _, _, _, _, _, _, _, _, loadsRow_keeps hrow hk01, fun w2 hw2 => ?_⟩
    obtain ⟨w3, hst, hk3, hs3, hv3⟩ := store_new (t := 46) (cs := Value.string (mkS n) :: valCells y bp' bc' kp' kc') hw2 n46 rfl rfl rfl
    refine ⟨w3, hst, ?_⟩
    generalize hbk : buf ++ [91] ++ kidsW esc false (ps.take k) = bk at *
    refine (ret127 (hw1.keeps hk3) (by simp; omega)).go fun w4 hf4 hw4 => ⟨_, rfl, ?_⟩
    have hv4 := hf4.tags _ 46 _ (by decide) (by decide) (by decide) hv3
    refine ⟨_, _, _, _, _, _, _, _, _, _, _, _, (hv4.lies.sub 1 8).row n26, ?_⟩
    have hf14 := (hk3.fr hw1.size).trans hf4
    have hat : At w0 w4 a wx true esc bk 4 (3 :: t :: ms) := ⟨hw4, .inr rfl, by simp, by simp; omega, by omega, hf14.keep hk01⟩
    refine (hcall w4 _ hat (by omega)).go fun w5 hf5 hw5 => ⟨rfl, _, i64w (by omega) (by omega), ks.length - (k + 1), by omega, (hf1.trans hf14).trans hf5, k + 1, by omega, by omega, rfl, ?_, ?_⟩
    · rw [hsucc, ← List.append_assoc, ← List.append_assoc, hbk]
      simpa [kidT, List.append_assoc] using hw5
    · rw [hsucc, ← List.append_assoc, ← List.append_assoc, hbk]
      simp only [kidT, Bool.false_eq_true, if_false, List.length_append, List.length_cons, List.length_nil] at hlen ⊢
      omega
  · have hge := of_decide_eq_false hge
    have hkk : k = ks.length := by omega
    have hall : ps.take k = ps := List.take_of_length_le (by omega)
    rw [hall] at hw1 hlen
    refine (ret128 hw1 (kidsW_close esc false ps buf 91 93 (by decide)) hm1 (by omega) (by omega)).go fun w2 hf2 hw2 => ⟨rfl, hR w2 (hf1.trans hf2) ?_⟩
    have e : buf ++ [91] ++ joinK (ps.map (kidT esc false)) ++ [93] ++ [44] = buf ++ kidsT esc false ps ++ [44] := by simp only [kidsT, Bool.false_eq_true, if_false, List.append_assoc]
    show WR w0.heap.size w2 a wx true esc (buf ++ kidsT esc false ps ++ [44]) ms
    rw [← e]; exact hw2

theorem ret71 {F : Nat → List UInt8} (hF : FloatIs F) {w0 : World} (T : Tabs w0) (E : Esc w0) {a : Nat} {wx : Addr} {esc : Bool} : ∀ (d : Nat) (x : Val) (bp kp : Option Addr) (bc kc : Nat), Hangs d w0 x bp bc kp kc → FitsV d x → RightV d x →
    ∀ (w : World) (buf : List UInt8) (t : Int) (ms : List Int), ms.length + 2 * d ≤ 880 → At w0 w a wx true esc buf t ms → buf.length + 50000 * nparts d x ≤ 1000000000 →
      Put 71 [.agg ⟨valCells x bp bc kp kc⟩] w0 w a wx true esc buf ms (textV F true esc (d + 1) x) := by
  intro d
  induction d using Nat.strongRecOn with
  | _ d ih =>
  intro x bp kp bc kc hh hf hr w buf t ms hdeep h hl
  have ho := hh.own
  have hown := hf.own
  have hright : OwnRight x := by cases d <;> first | exact hr | exact hr.1
  have hsum : 1 + (x.kids.map fun p => nparts (d - 1) p.2).sum ≤ nparts d x := by
    cases d with
    | zero => rw [hf.2]; simp [nparts]
    | succ d => exact Nat.le_refl _
  have hkid : (x.kind = 3 ∨ x.kind = 4 ∨ x.kind = 15) → ∀ (t' : Int) (ms' : List Int), ms'.length = ms.length + 2 → ∀ i n y, x.kids[i]? = some (n, y) → KidW (textV F true esc d) (nparts (d - 1)) w0 a wx esc t' ms' kp i n y := by
    intro hx t' ms' hms i n y hi
    obtain ⟨d', hd', htn, hfy⟩ := hf.kid hi
    subst hd'
    obtain ⟨ka, bp', bc', kp', kc', hka, hrow, hhy⟩ := hh.kid hi
    refine ⟨ka, bp', bc', kp', kc', hka, hrow, htn, (textV_len hF true esc w0 T d' y bp' kp' bc' kc' hhy hfy).1, fun w' buf' hat hl' => ?_⟩
    exact ih d' (by omega) y bp' kp' bc' kc' hhy hfy (hr.2 hx n y (List.mem_of_getElem? hi)) w' buf' t' ms' (by omega) hat hl'
  have etext := textV_succ F true esc d x
  refine Wrote.of (c71 _ _ _ _ _ _ _ _ _ _ _ _ _ w _ ?_)
  unfold VC71
  intro w1 hw1
  have hk1 : Keeps w w1 := by rw [hw1]; exact (Keeps.refl w).alloc _
  have hv1 : Var w1 w.heap.size 26 (valCells x bp bc kp kc) := by rw [hw1]; exact var_alloc w _ 26
  clear hw1
  have h1 := h.keeps hk1
  have hone := h.one
  refine ⟨x.kind, hv1.lies.at 0 rfl rfl, fun h3 => ?_, fun h3 => ⟨fun h4 => ?_, fun h4 => ⟨fun h15 => ?_, fun h15 => ?_⟩⟩⟩
  · have h3 : x.kind = 3 := of_decide_eq_true h3
    refine (ret40 h1).go fun w2 hf2 hw2 => ⟨_, rfl, ?_⟩
    have hv2 := hf2.tags _ 26 _ (by decide) (by decide) (by decide) hv1
    refine ⟨kp, x.kids.length, kc, hv2.lies.at 7 rfl rfl, ?_⟩
    refine (ret41 (textV F true esc d) (nparts (d - 1)) hw2 (hf2.keep h1.keep) T E (.inl rfl) (by simp; omega) x.kids kp kc ho.2.2.2.2.2.2.2 (by simp; omega) (hkid (.inl h3) 5 (2 :: t :: ms) (by simp))
      (fun w' => Fr w0.heap.size w w' ∧ WR w0.heap.size w' a wx true esc (buf ++ textV F true esc (d + 1) x ++ [44]) ms) fun w3 hf3 hw3 => ?_).mono ?_
    · have hblen : (buf ++ ([123] : List UInt8) ++ kidsW esc true (x.kids.map fun p : List UInt8 × Val => (p.1, textV F true esc d p.2))).length ≤ 1000000000 := by
        have hjl := (textV_len hF true esc w0 T d x bp kp bc kc hh hf).2 true
        simp only [List.length_append, List.length_cons, List.length_nil]
        by_cases hn : (x.kids.map fun p => (p.1, textV F true esc d p.2)) = []
        · rw [hn]; simp [kidsW]; omega
        · have hjl2 := (textV_len hF true esc w0 T d x bp kp bc kc hh hf).1
          rw [etext] at hjl2
          simp only [ownT, h3, kidsT, List.length_append] at hjl2
          rw [kidsW_join _ _ _ hn]
          simp at hjl2 ⊢
          omega
      refine (ret72 hw3 (.inl rfl) (kidsW_close esc true _ buf 123 125 (by decide)) hone (by omega) hblen).mono ?_
      rintro e w4 ⟨rfl, hf4, hw4⟩
      refine ⟨rfl, (((hk1.fr h.size).trans hf2).trans hf3).trans hf4, ?_⟩
      rw [etext]
      simpa [ownT, h3, kidsT, List.append_assoc] using hw4
    · rintro e w4 ⟨rfl, hf4, hw4⟩
      exact ⟨true, rfl, fun h => by simp at h, fun _ => ⟨rfl, hf4, hw4⟩⟩
  · have h4 : x.kind = 4 := of_decide_eq_true h4
    refine (ret126 h1).go fun w2 hf2 hw2 => ⟨_, rfl, ?_⟩
    have hv2 := hf2.tags _ 26 _ (by decide) (by decide) (by decide) hv1
    refine ⟨kp, x.kids.length, kc, hv2.lies.at 7 rfl rfl, ?_⟩
    refine loop71 (textV F true esc d) (nparts (d - 1)) hw2 (hf2.keep h1.keep) (by omega) hone x.kids kp kc ho.2.2.2.2.2.2.2 (by simp; omega) (hkid (.inr (.inl h4)) 4 (3 :: t :: ms) (by simp)) (fun u w' => u = .nilIface ∧ Fr w0.heap.size w w' ∧ WR w0.heap.size w' a wx true esc (buf ++ textV F true esc (d + 1) x ++ [44]) ms) fun w3 hf3 hw3 => ?_
    refine ⟨rfl, ((hk1.fr h.size).trans hf2).trans hf3, ?_⟩
    rw [etext]
    simpa [ownT, h4] using hw3
  · have h15 : x.kind = 15 := of_decide_eq_true h15
    have htl := textF_len hown.1
    have hsl := strF_len esc x.text
    refine ⟨x.text, hv1.lies.at 1 rfl rfl, (ret129 h1 T E x.text (textF_utf8 hown.1) htl).go fun w2 hf2 hw2 => ⟨_, rfl, ?_⟩⟩
    have hv2 := hf2.tags _ 26 _ (by decide) (by decide) (by decide) hv1
    refine ⟨kp, x.kids.length, kc, hv2.lies.at 7 rfl rfl, ?_⟩
    have ehdr : buf ++ ([123, 34, 36, 99, 111, 100, 101, 34, 58] ++ strF esc x.text ++ [44, 34, 36, 115, 99, 111, 112, 101, 34, 58, 123]) = (buf ++ ([123, 34, 36, 99, 111, 100, 101, 34, 58] ++ strF esc x.text ++ [44, 34, 36, 115, 99, 111, 112, 101, 34, 58])) ++ [123] := by
      simp [List.append_assoc]
    rw [ehdr] at hw2
    obtain ⟨bh, hbh⟩ : ∃ bh, buf ++ ([123, 34, 36, 99, 111, 100, 101, 34, 58] ++ strF esc x.text ++ [44, 34, 36, 115, 99, 111, 112, 101, 34, 58]) = bh := ⟨_, rfl⟩
    have hbl : bh.length ≤ buf.length + 3000 := by rw [← hbh]; simp; omega
    rw [hbh] at hw2
    have hblen : (bh ++ ([123] : List UInt8) ++ kidsW esc true (x.kids.map fun p : List UInt8 × Val => (p.1, textV F true esc d p.2))).length ≤ 1000000000 := by
      simp only [List.length_append, List.length_cons, List.length_nil]
      by_cases hn : (x.kids.map fun p => (p.1, textV F true esc d p.2)) = []
      · rw [hn]; simp [kidsW]; omega
      · have hjl2 := (textV_len hF true esc w0 T d x bp kp bc kc hh hf).1
        rw [etext] at hjl2
        simp only [ownT, h15, kidsT, List.length_append] at hjl2
        rw [kidsW_join _ _ _ hn]
        simp at hjl2 ⊢
        omega
    refine (ret41 (textV F true esc d) (nparts (d - 1)) hw2 (hf2.keep h1.keep) T E (.inr (.inr rfl)) (by simp; omega) x.kids kp kc ho.2.2.2.2.2.2.2 (by simp; omega) (hkid (.inr (.inr h15)) 5 (6 :: t :: ms) (by simp))
      (fun w' => Fr w0.heap.size w w' ∧ WR w0.heap.size w' a wx true esc (buf ++ textV F true esc (d + 1) x ++ [44]) ms) fun w3 hf3 hw3 => ?_).mono ?_
    · refine (ret72 hw3 (.inr rfl) (kidsW_close esc true _ bh 123 125 (by decide)) hone (by omega) hblen).mono ?_
      rintro e w4 ⟨rfl, hf4, hw4⟩
      refine ⟨rfl, (((hk1.fr h.size).trans hf2).trans hf3).trans hf4, ?_⟩
      rw [etext]
      rw [← hbh] at hw4
      simpa [ownT, h15, kidsT, List.append_assoc] using hw4
    · rintro e w4 ⟨rfl, hf4, hw4⟩
      exact ⟨true, rfl, fun h => by simp at h, fun _ => ⟨rfl, hf4, hw4⟩⟩
  · have hne : x.kind ≠ 3 ∧ x.kind ≠ 4 ∧ x.kind ≠ 15 := ⟨of_decide_eq_false h3, of_decide_eq_false h4, of_decide_eq_false h15⟩
    refine ⟨_, _, _, _, _, _, _, _, _, _, _, _, hv1.lies.row n26, ?_⟩
    refine (ret130 hF h1 T E x bp kp bc kc d hh hown hright hne (fun three => kidsT esc three (x.kids.map fun p => (p.1, textV F true esc d p.2)))).go fun w2 hf2 hw2 => ⟨rfl, rfl, (hk1.fr h.size).trans hf2, ?_⟩
    rw [etext]; exact hw2
end Go.Proofs.Tryz
set_option linter.unusedVariables false
set_option maxRecDepth 100000
namespace Go.Proofs.Tryz
open Go.Vc

/- F10: impl.ExtWrite -/
def VC10 (vKind : Int) (vText : List UInt8) (vMore : List UInt8) (vN : Int) (vBits : Int) (vHigh : Int) (vB : Option Addr) (vB_n vB_c : Nat) (vKids : Option Addr) (vKids_n vKids_c : Nat) (canonical : Bool) (escape : Bool) (w : World) (R : Value → World → Prop) : Prop :=
  ∀ w1, w1 = w.alloc (.cells ⟨[.int .i64 vKind, .string (mkS vText), .string (mkS vMore), .int .i64 vN, .int .u64 vBits, .int .u64 vHigh, .slice vB vB_n vB_c, .slice vKids vKids_n vKids_c]⟩ 26) → 
  ∀ w2, w2 = w1.alloc (.cells ⟨[.slice none 0 0, .int .i64 0, .int .i8 0]⟩ 69) → 
  Calls prog 39 ⟨[.iface 72 (.pointer (some (⟨w1.heap.size, 0, none⟩))), .bool canonical, .bool escape]⟩ w2 fun e w3 => ∃ x15 : Option Addr, e = .returned (.pointer x15) ∧ 
  Calls prog 40 ⟨[.pointer x15]⟩ w3 fun e w4 => ∃ x18 : Addr, e = .returned (.tuple ⟨[.iface 70 (.pointer (some x18)), .nilIface]⟩) ∧ 
  ∃ (x26 : Option Addr) (x26_n x26_c : Nat), w4.cell? ⟨w.heap.size, 7, none⟩ = some (.slice x26 x26_n x26_c) ∧ 
  Calls prog 41 ⟨[.pointer x15, .slice x26 x26_n x26_c]⟩ w4 fun e w5 => ∃ x27 : Bool, e = .returned (.bool x27) ∧ 
  ((!x27) = true →
  R (.tuple ⟨[.string (mkS []), .bool false]⟩) w5) ∧ ((!x27) = false →
  Calls prog 42 ⟨[.pointer (some (⟨w1.heap.size, 0, none⟩))]⟩ w5 fun e w6 => ∃ x30 : List UInt8, e = .returned (.string (mkS x30)) ∧ 
    R (.tuple ⟨[.string (mkS x30), .bool true]⟩) w6)
def an10 : Ann :=
  .seq (.reg (.text []))
  (.seq (.reg (.text []))
  (.seq (.reg (.text [.p .n, .p .n, .p .n, .p (.sh [.ptr])]))
  (.seq (.seq (.reg (.text [.p .n, .p (.sh [.ifp 70, .nil])]))
  (.seq (.reg (.text [.p .n, .p .n, .p .n, .p .n, .p .n, .p (.sh [.slice]), .p (.sh [.bool])]))
  (.cond 1 2 (.seq (.reg (.text []))
  .leaf) .leaf)))
  (.seq (.reg (.text [.p (.sh [.str])]))
  .leaf))))
theorem vcE10 (vKind : Int) (vText : List UInt8) (vMore : List UInt8) (vN : Int) (vBits : Int) (vHigh : Int) (vB : Option Addr) (vB_n vB_c : Nat) (vKids : Option Addr) (vKids_n vKids_c : Nat) (canonical : Bool) (escape : Bool) (w : World) (R : Value → World → Prop) : vcFn prog f10 an10 [.agg ⟨[.int .i64 vKind, .string (mkS vText), .string (mkS vMore), .int .i64 vN, .int .u64 vBits, .int .u64 vHigh, .slice vB vB_n vB_c, .slice vKids vKids_n vKids_c]⟩, .bool canonical, .bool escape] w R = VC10 vKind vText vMore vN vBits vHigh vB vB_n vB_c vKids vKids_n vKids_c canonical escape w R := by kernel_rfl
theorem c10w (vKind : Int) (vText : List UInt8) (vMore : List UInt8) (vN : Int) (vBits : Int) (vHigh : Int) (vB : Option Addr) (vB_n vB_c : Nat) (vKids : Option Addr) (vKids_n vKids_c : Nat) (canonical : Bool) (escape : Bool) (w : World) (R : Value → World → Prop) (hvc : VC10 vKind vText vMore vN vBits vHigh vB vB_n vB_c vKids vKids_n vKids_c canonical escape w R) : Calls prog 10 ⟨[.agg ⟨[.int .i64 vKind, .string (mkS vText), .string (mkS vMore), .int .i64 vN, .int .u64 vBits, .int .u64 vHigh, .slice vB vB_n vB_c, .slice vKids vKids_n vKids_c]⟩, .bool canonical, .bool escape]⟩ w fun e w' => ∃ v, e = .returned v ∧ R v w' :=
  vc_calls mixed (fn := f10) (ann := an10) (by kernel_rfl) ((vcE10 vKind vText vMore vN vBits vHigh vB vB_n vB_c vKids vKids_n vKids_c canonical escape w R).symm ▸ hvc)

/- F3: laws.FnExtCanonical -/
def VC3 (xKind : Int) (xText : List UInt8) (xMore : List UInt8) (xN : Int) (xBits : Int) (xHigh : Int) (xB : Option Addr) (xB_n xB_c : Nat) (xKids : Option Addr) (xKids_n xKids_c : Nat) (escape : Bool) (w : World) (R : Value → World → Prop) : Prop :=
  ∀ w1, w1 = w.alloc (.cells ⟨[.int .i64 xKind, .string (mkS xText), .string (mkS xMore), .int .i64 xN, .int .u64 xBits, .int .u64 xHigh, .slice xB xB_n xB_c, .slice xKids xKids_n xKids_c]⟩ 26) → 
  ∃ x10 : Int, ∃ x10_1 : List UInt8, ∃ x10_2 : List UInt8, ∃ x10_3 : Int, ∃ x10_4 : Int, ∃ x10_5 : Int, ∃ (x10_6 : Option Addr) (x10_6_n x10_6_c : Nat), ∃ (x10_7 : Option Addr) (x10_7_n x10_7_c : Nat), LoadsRow prog 26 w1 ⟨w.heap.size, 0, none⟩ [.int .i64 x10, .string (mkS x10_1), .string (mkS x10_2), .int .i64 x10_3, .int .u64 x10_4, .int .u64 x10_5, .slice x10_6 x10_6_n x10_6_c, .slice x10_7 x10_7_n x10_7_c] ∧ 
  Calls prog 6 ⟨[.agg ⟨[.int .i64 x10, .string (mkS x10_1), .string (mkS x10_2), .int .i64 x10_3, .int .u64 x10_4, .int .u64 x10_5, .slice x10_6 x10_6_n x10_6_c, .slice x10_7 x10_7_n x10_7_c]⟩]⟩ w1 fun e w2 => ∃ x11 : Bool, e = .returned (.bool x11) ∧ 
  ((!x11) = true →
  R (.bool true) w2) ∧ ((!x11) = false →
  ∃ x13 : Int, ∃ x13_1 : List UInt8, ∃ x13_2 : List UInt8, ∃ x13_3 : Int, ∃ x13_4 : Int, ∃ x13_5 : Int, ∃ (x13_6 : Option Addr) (x13_6_n x13_6_c : Nat), ∃ (x13_7 : Option Addr) (x13_7_n x13_7_c : Nat), LoadsRow prog 26 w2 ⟨w.heap.size, 0, none⟩ [.int .i64 x13, .string (mkS x13_1), .string (mkS x13_2), .int .i64 x13_3, .int .u64 x13_4, .int .u64 x13_5, .slice x13_6 x13_6_n x13_6_c, .slice x13_7 x13_7_n x13_7_c] ∧ 
    Calls prog 7 ⟨[.agg ⟨[.int .i64 x13, .string (mkS x13_1), .string (mkS x13_2), .int .i64 x13_3, .int .u64 x13_4, .int .u64 x13_5, .slice x13_6 x13_6_n x13_6_c, .slice x13_7 x13_7_n x13_7_c]⟩]⟩ w2 fun e w3 => ∃ x14 : List Value, e = .returned (.agg ⟨x14⟩) ∧ 
    ∀ w4, w4 = w3.alloc (.cells ⟨[.int .i64 0, .string (mkS []), .string (mkS []), .int .i64 0, .int .u64 0, .int .u64 0, .slice none 0 0, .slice none 0 0]⟩ 26) → 
    ∃ w5, (Instr.storeAt 26 (.pointer (some ⟨w3.heap.size, 0, none⟩)) (.agg ⟨x14⟩)).run prog w4 = .ok () w5 ∧ 
    ∃ x15 : Int, ∃ x15_1 : List UInt8, ∃ x15_2 : List UInt8, ∃ x15_3 : Int, ∃ x15_4 : Int, ∃ x15_5 : Int, ∃ (x15_6 : Option Addr) (x15_6_n x15_6_c : Nat), ∃ (x15_7 : Option Addr) (x15_7_n x15_7_c : Nat), LoadsRow prog 26 w5 ⟨w3.heap.size, 0, none⟩ [.int .i64 x15, .string (mkS x15_1), .string (mkS x15_2), .int .i64 x15_3, .int .u64 x15_4, .int .u64 x15_5, .slice x15_6 x15_6_n x15_6_c, .slice x15_7 x15_7_n x15_7_c] ∧ 
    Calls prog 8 ⟨[.agg ⟨[.int .i64 x15, .string (mkS x15_1), .string (mkS x15_2), .int .i64 x15_3, .int .u64 x15_4, .int .u64 x15_5, .slice x15_6 x15_6_n x15_6_c, .slice x15_7 x15_7_n x15_7_c]⟩]⟩ w5 fun e w6 => ∃ x16 : Bool, e = .returned (.bool x16) ∧ 
    ((!x16) = true →
    R (.bool true) w6) ∧ ((!x16) = false →
    ∃ x19 : Int, ∃ x19_1 : List UInt8, ∃ x19_2 : List UInt8, ∃ x19_3 : Int, ∃ x19_4 : Int, ∃ x19_5 : Int, ∃ (x19_6 : Option Addr) (x19_6_n x19_6_c : Nat), ∃ (x19_7 : Option Addr) (x19_7_n x19_7_c : Nat), LoadsRow prog 26 w6 ⟨w3.heap.size, 0, none⟩ [.int .i64 x19, .string (mkS x19_1), .string (mkS x19_2), .int .i64 x19_3, .int .u64 x19_4, .int .u64 x19_5, .slice x19_6 x19_6_n x19_6_c, .slice x19_7 x19_7_n x19_7_c] ∧ 
      Calls prog 9 ⟨[.agg ⟨[.int .i64 x19, .string (mkS x19_1), .string (mkS x19_2), .int .i64 x19_3, .int .u64 x19_4, .int .u64 x19_5, .slice x19_6 x19_6_n x19_6_c, .slice x19_7 x19_7_n x19_7_c]⟩, .bool true, .bool escape]⟩ w6 fun e w7 => ∃ x21 : List UInt8, ∃ x21_1 : Bool, e = .returned (.tuple ⟨[.string (mkS x21), .bool x21_1]⟩) ∧ 
      ∃ x25 : Int, ∃ x25_1 : List UInt8, ∃ x25_2 : List UInt8, ∃ x25_3 : Int, ∃ x25_4 : Int, ∃ x25_5 : Int, ∃ (x25_6 : Option Addr) (x25_6_n x25_6_c : Nat), ∃ (x25_7 : Option Addr) (x25_7_n x25_7_c : Nat), LoadsRow prog 26 w7 ⟨w3.heap.size, 0, none⟩ [.int .i64 x25, .string (mkS x25_1), .string (mkS x25_2), .int .i64 x25_3, .int .u64 x25_4, .int .u64 x25_5, .slice x25_6 x25_6_n x25_6_c, .slice x25_7 x25_7_n x25_7_c] ∧ 
      Calls prog 10 ⟨[.agg ⟨[.int .i64 x25, .string (mkS x25_1), .string (mkS x25_2), .int .i64 x25_3, .int .u64 x25_4, .int .u64 x25_5, .slice x25_6 x25_6_n x25_6_c, .slice x25_7 x25_7_n x25_7_c]⟩, .bool true, .bool escape]⟩ w7 fun e w8 => ∃ x27 : List UInt8, ∃ x27_1 : Bool, e = .returned (.tuple ⟨[.string (mkS x27), .bool x27_1]⟩) ∧ 
      (x27_1 = true →
      x21.length + [10].length ≤ 9223372036854775807 ∧ 
        R (.bool (decide (x27 = (x21 ++ [10])))) w8) ∧ (x27_1 = false →
      R (.bool false) w8)))
def an3 : Ann :=
  .seq (.reg (.text []))
  (.seq (.seq (.reg (.text [.p (.sh [.int .i64, .str, .str, .int .i64, .int .u64, .int .u64, .slice, .slice]), .p (.sh [.bool])]))
  (.cond 1 2 (.seq (.reg (.text []))
  .leaf) .leaf))
  (.seq (.reg (.text [.p (.sh [.int .i64, .str, .str, .int .i64, .int .u64, .int .u64, .slice, .slice]), .p (.sh [.agg])]))
  (.seq (.seq (.reg (.text [.p (.sh [.int .i64, .str, .str, .int .i64, .int .u64, .int .u64, .slice, .slice]), .p (.sh [.bool])]))
  (.cond 3 4 (.seq (.reg (.text []))
  .leaf) .leaf))
  (.seq (.reg (.text [.p (.sh [.int .i64, .str, .str, .int .i64, .int .u64, .int .u64, .slice, .slice]), .p .n, .p (.sh [.str, .bool])]))
  (.seq (.reg (.text [.p (.sh [.int .i64, .str, .str, .int .i64, .int .u64, .int .u64, .slice, .slice]), .p .n, .p (.sh [.str, .bool])]))
  (.seq (.reg (.text [.p .n, .p .n, .gs .n 5 6]))
  .leaf))))))
theorem vcE3 (xKind : Int) (xText : List UInt8) (xMore : List UInt8) (xN : Int) (xBits : Int) (xHigh : Int) (xB : Option Addr) (xB_n xB_c : Nat) (xKids : Option Addr) (xKids_n xKids_c : Nat) (escape : Bool) (w : World) (R : Value → World → Prop) : vcFn prog f3 an3 [.agg ⟨[.int .i64 xKind, .string (mkS xText), .string (mkS xMore), .int .i64 xN, .int .u64 xBits, .int .u64 xHigh, .slice xB xB_n xB_c, .slice xKids xKids_n xKids_c]⟩, .bool escape] w R = VC3 xKind xText xMore xN xBits xHigh xB xB_n xB_c xKids xKids_n xKids_c escape w R := by kernel_rfl
theorem c3 (xKind : Int) (xText : List UInt8) (xMore : List UInt8) (xN : Int) (xBits : Int) (xHigh : Int) (xB : Option Addr) (xB_n xB_c : Nat) (xKids : Option Addr) (xKids_n xKids_c : Nat) (escape : Bool) (w : World) (R : Value → World → Prop) (hvc : VC3 xKind xText xMore xN xBits xHigh xB xB_n xB_c xKids xKids_n xKids_c escape w R) : Calls prog 3 ⟨[.agg ⟨[.int .i64 xKind, .string (mkS xText), .string (mkS xMore), .int .i64 xN, .int .u64 xBits, .int .u64 xHigh, .slice xB xB_n xB_c, .slice xKids xKids_n xKids_c]⟩, .bool escape]⟩ w fun e w' => ∃ v, e = .returned v ∧ R v w' :=
  vc_calls mixed (fn := f3) (ann := an3) (by kernel_rfl) ((vcE3 xKind xText xMore xN xBits xHigh xB xB_n xB_c xKids xKids_n xKids_c escape w R).symm ▸ hvc)

end Go.Proofs.Tryz
/- The reference: ExtText writes the text of a value. -/
set_option linter.unusedVariables false
namespace Go.Proofs.Tryz
open Go.Vc Go.RowKit Go.Sort

theorem ret9 {F : Nat → List UInt8} (hF : FloatIs F) (can esc : Bool) : ∀ (d : Nat) (x : Val) (bp kp : Option Addr) (bc kc : Nat) (w : World), Tabs w → Hangs d w x bp bc kp kc → FitsV d x → RightV d x → nparts d x ≤ 1000 →
    Ret 9 [.agg ⟨valCells x bp bc kp kc⟩, .bool can, .bool esc] w (.tuple ⟨[.string (mkS (textV F can esc (d + 1) x)), .bool true]⟩) := by
  intro d
  induction d using Nat.strongRecOn with
  | _ d ih =>
  intro x bp kp bc kc w ht hh hf hr hp
  have ho := hh.own
  have hown := hf.own
  obtain ⟨hlen1, hlen2⟩ := textV_len hF can esc w ht d x bp kp bc kc hh hf
  have hright : OwnRight x := by cases d <;> first | exact hr | exact hr.1
  refine Ret.of (c9 _ _ _ _ _ _ _ _ _ _ _ _ can esc w _ ?_)
  unfold VC9
  intro w1 hw1 w2 hw2
  have hk1 : Keeps w w1 := by rw [hw1]; exact (Keeps.refl w).alloc _
  have hv1 : Var w1 w.heap.size 26 (valCells x bp bc kp kc) := by rw [hw1]; exact var_alloc w _ 26
  have hk2 : Keeps w1 w2 := by rw [hw2]; exact (Keeps.refl w1).alloc _
  have hve : Var w2 w1.heap.size 4 [.bool esc] := by rw [hw2]; exact var_alloc w1 _ 4
  have hv2 := hv1.keeps hk2
  have hk02 := hk1.trans hk2
  have ce : ∀ w', Keeps w2 w' → w'.cell? ⟨w1.heap.size, 0, none⟩ = some (.bool esc) := fun w' hk' => (hve.keeps hk').lies.at 0 rfl rfl
  clear hw1 hw2
  have htl := textF_len hown.1
  have htm := textF_len hown.2.1
  have hsl := strF_len esc x.text
  have hsm := strF_len esc x.more
  have hbl := hown.2.2.1
  have hidl := idF_len x.b
  have h64l := b64F_len _ x.b (Nat.le_refl _)
  have hnl := decNum_len' x.num ho.2.2.2.1.1 ho.2.2.2.1.2
  have etext := textV_succ F can esc d x
  generalize htv : textV F can esc (d + 1) x = tv at *
  have fin : ∀ s w', Keeps w w' → tv = s → (Value.tuple ⟨[.string (mkS s), .bool true]⟩ = .tuple ⟨[.string (mkS tv), .bool true]⟩ ∧ Keeps w w') := fun s w' hk hs => by rw [hs]; exact ⟨rfl, hk⟩
  have wrap : ∀ name s w', Keeps w w' → name.length + s.length ≤ 4611686018427387904 → tv = wrapF name s → Calls prog 25 ⟨[.string (mkS name), .string (mkS s)]⟩ w' fun e w6 => ∃ x37 : List UInt8, ∃ x37_1 : Bool, e = .returned (.tuple ⟨[.string (mkS x37), .bool x37_1]⟩) ∧
        (Value.tuple ⟨[.string (mkS x37), .bool x37_1]⟩ = .tuple ⟨[.string (mkS tv), .bool true]⟩ ∧ Keeps w w6) := fun name s w' hk hl hs =>
    (ret25 name s w' hl).go fun w6 hk6 => ⟨_, _, rfl, fin _ _ (hk.trans hk6) hs⟩
  have kidsCall : (x.kind = 3 ∨ x.kind = 4 ∨ x.kind = 15) → ∀ (z : Val) (bpz : Option Addr) (bcz : Nat) (w' : World), z.kids = x.kids → z.kind = 3 ∨ z.kind = 4 → Keeps w w' →
      Ret 30 [.agg ⟨valCells z bpz bcz kp kc⟩, .bool can, .bool esc] w' (.tuple ⟨[.string (mkS (kidsT esc (decide (z.kind = 3)) (x.kids.map fun p => (p.1, textV F can esc d p.2)))), .bool true]⟩) := by
    intro hx z bpz bcz w' hz hzk hkw
    rw [← hz]
    refine ret30 (textV F can esc d) z bpz kp bcz kc can esc w' hzk (by rw [hz]; exact ho.2.2.2.2.2.2.2) (fun i n y hi => ?_) (by rw [hz]; exact Nat.le_trans (hlen2 _) (by omega)) (fun n y hm => ?_)
    · rw [hz] at hi
      obtain ⟨d', hd', htn, hfy⟩ := hf.kid hi
      subst hd'
      obtain ⟨ka, bp', bc', kp', kc', hka, hrow, hhy⟩ := (hh.keeps hkw).kid hi
      have hpk := nparts_kid (d := d') (List.mem_of_getElem? hi)
      refine ⟨ka, bp', bc', kp', kc', hka, hrow, textF_len htn, fun w'' hk'' => ?_⟩
      exact ih d' (by omega) y bp' kp' bc' kc' w'' (ht.keeps (hkw.trans hk'')) (hhy.keeps hk'') hfy (hr.2 hx n y (List.mem_of_getElem? hi)) (by omega)
    · rw [hz] at hm
      obtain ⟨i, hi⟩ := List.mem_iff_getElem?.1 hm
      obtain ⟨d', hd', htn, hfy⟩ := hf.kid hi
      subst hd'
      obtain ⟨ka, bp', bc', kp', kc', hka, hrow, hhy⟩ := hh.kid hi
      have hpk := nparts_kid (d := d') hm
      have := (textV_len hF can esc w ht d' y _ _ _ _ hhy hfy).1
      omega
  refine ⟨x.kind, hv2.lies.at 0 rfl rfl, fun h => ?_, fun h1 => ⟨fun h => ?_, fun h2 => ?_⟩⟩
  · have h : x.kind = 1 := of_decide_eq_true h
    have e : tv = num1F F can x.bits.toNat := by rw [etext]; simp [ownT, h]
    have hdl := dblF_len hF x.bits.toNat w ht
    refine ⟨x.bits, hv2.lies.at 4 rfl rfl, x.bits.toNat, w2, frombits _ _, ?_⟩
    refine (ret27 hF _ (by have := ho.2.2.2.2.1; unfold inU64 at this; omega) w2 (ht.keeps hk02)).go fun w4 hk4 => ⟨_, rfl, ?_⟩
    intro Kx hK
    have key : ∀ b w5, Keeps w2 w5 → b = (can || nanB x.bits.toNat || inf0B x.bits.toNat) → Kx b w5 := by
      intro b w5 hk5 hb
      refine hK b w5 ⟨fun hbt => ⟨by simp; omega, by simp; omega, wrap _ _ w5 (hk02.trans hk5) (by simp; omega) ?_⟩, fun hbf => fin _ _ (hk02.trans hk5) ?_⟩
      · rw [e, num1F, if_pos (by rw [← hb, hbt])]
      · rw [e, num1F, if_neg (by rw [← hb, hbf]; decide)]
    refine ⟨fun hc => key true _ hk4 (by rw [hc]; rfl), fun hc => ?_⟩
    exact (ret28 _ w4).go fun w7 hk7 => ⟨_, rfl, fun hn => key true _ (hk4.trans hk7) (by rw [hc, hn]; rfl), fun hn => (ret29z _ w7).go fun w8 hk8 => ⟨_, rfl, key _ _ ((hk4.trans hk7).trans hk8) (by rw [hc, hn]; rfl)⟩⟩
  · have h : x.kind = 2 := of_decide_eq_true h
    have e : tv = strF esc x.text := by rw [etext]; simp [ownT, h]
    exact ⟨x.text, hv2.lies.at 1 rfl rfl, (ret23 x.text _ esc w2 (by omega) (ce w2 (Keeps.refl _))).go fun w9 hk9 => ⟨_, rfl, fin _ _ (hk02.trans hk9) e⟩⟩
  · intro Kx hK
    have h1 : ¬ x.kind = 1 := of_decide_eq_false h1
    have h2 : ¬ x.kind = 2 := of_decide_eq_false h2
    have key : ∀ b : Bool, (b = true ↔ x.kind = 3 ∨ x.kind = 4) → Kx b w2 := by
      intro b hb
      refine hK b w2 ⟨fun hbt => ?_, fun hbf => ?_⟩
      · have h34 := hb.1 hbt
        have e : tv = kidsT esc (decide (x.kind = 3)) (x.kids.map fun p => (p.1, textV F can esc d p.2)) := by
          rw [etext]; rcases h34 with h | h <;> simp [ownT, h]
        exact ⟨_, _, _, _, _, _, _, _, _, _, _, _, hv2.lies.row n26, esc, ce w2 (Keeps.refl _), (kidsCall (by omega) x bp bc w2 rfl h34 hk02).go fun w11 hk11 => ⟨_, _, rfl, fin _ _ (hk02.trans hk11) e⟩⟩
      · have h34 : ¬ (x.kind = 3 ∨ x.kind = 4) := fun e => by rw [hb.2 e] at hbf; cases hbf
        have h3 : ¬ x.kind = 3 := fun e => h34 (.inl e)
        have h4 : ¬ x.kind = 4 := fun e => h34 (.inr e)
        have kept := hv2.lies.kept
        have mem : ∀ (j : Nat) (v : Value), (valCells x bp bc kp kc)[j]? = some v → ((⟨w.heap.size, j, none⟩ : Addr), v) ∈ rowFacts w.heap.size 0 (valCells x bp bc kp kc) := fun j v hj => by
          have := mem_rowFacts (b := w.heap.size) (o := 0) hj
          rwa [Nat.zero_add] at this
        have dr : Keeps w2 w2.drew := (Keeps.refl w2).drew
        refine ⟨fun h => ?_, fun h5 => ⟨fun h => ?_, fun h6 => ⟨fun h => ?_, fun h7 => ⟨fun h => ?_, fun h8 => ⟨fun h => ?_, fun h9 => ⟨fun h => ?_, fun h10 => ⟨fun h => ?_, fun h11 => ⟨fun h => ?_, fun h12 => ⟨fun h => ?_, fun h13 => ⟨fun h => ?_, fun h14 => ⟨fun h => ?_, fun h15 =>
          ⟨fun h => ?_, fun h16 => ⟨fun h => ?_, fun h17 => ⟨fun h => ?_, fun h18 => ⟨fun h => ?_, fun h19 => ⟨fun h => ?_, fun h255 => ⟨fun h => ?_, fun h127 => ?_⟩⟩⟩⟩⟩⟩⟩⟩⟩⟩⟩⟩⟩⟩⟩⟩⟩
        · have h : x.kind = 5 := of_decide_eq_true h
          have hm : (0 : Int) ≤ x.num % 256 ∧ x.num % 256 < 256 := by omega
          have hwr : IntKind.u8.wrap x.num = ((x.num % 256).toNat : Int) := by
            rw [Int.toNat_of_nonneg hm.1]; rfl
          refine ⟨_, kept, bp, x.b.length, bc, mem 6 _ rfl, x.num, mem 3 _ rfl, _, hwr, ?_⟩
          refine (ret31 bp bc x.b w2.drew (fun j b hj => let ⟨a, ha, hc⟩ := ho.1 j b hj; ⟨a, ha, (hk02.trans dr).cell hc⟩) (by omega)).go fun w12 hk12 => ⟨_, rfl, kept_keeps kept (dr.trans hk12), by simp; omega, by simp; omega, ?_⟩
          have h2l := hex2_len (x.num % 256).toNat
          refine (ret32 (x.num % 256).toNat (by omega) w12).go fun w13 hk13 => ⟨_, rfl, by simp; omega, by simp; omega, wrap _ _ w13 (((hk02.trans dr).trans hk12).trans hk13) (by simp; omega) ?_⟩
          rw [etext]; simp [ownT, h]
        · have h : x.kind = 6 := of_decide_eq_true h
          exact wrap _ _ w2 hk02 (by simp) (by rw [etext]; simp [ownT, h])
        · have h : x.kind = 7 := of_decide_eq_true h
          refine ⟨bp, x.b.length, bc, hv2.lies.at 6 rfl rfl, (ret33 bp bc x.b w2 (fun j b hj => let ⟨a, ha, hc⟩ := ho.1 j b hj; ⟨a, ha, hk02.cell hc⟩) (by omega)).go fun w16 hk16 => ⟨_, rfl, wrap _ _ w16 (hk02.trans hk16) (by simp; omega) (by rw [etext]; simp [ownT, h])⟩⟩
        · have h : x.kind = 8 := of_decide_eq_true h
          exact ⟨x.num, hv2.lies.at 3 rfl rfl, fun hb1 => fin _ _ hk02 (by rw [etext]; simp [ownT, h, of_decide_eq_true hb1]), fun hb1 => fin _ _ hk02 (by rw [etext]; simp [ownT, h, of_decide_eq_false hb1])⟩
        · have h : x.kind = 9 := of_decide_eq_true h
          exact ⟨x.num, hv2.lies.at 3 rfl rfl, (ret34 x.num ho.2.2.2.1.1 ho.2.2.2.1.2 w2 (ht.keeps hk02).pow).go fun w18 hk18 => ⟨_, rfl, by simp; omega, by simp; omega, wrap _ _ w18 (hk02.trans hk18) (by simp; omega) (by rw [etext]; simp [ownT, h])⟩⟩
        · have h : x.kind = 10 := of_decide_eq_true h
          exact fin _ _ hk02 (by rw [etext]; simp [ownT, h])
        · have h : x.kind = 11 := of_decide_eq_true h
          refine ⟨_, kept, x.text, mem 1 _ rfl, x.more, mem 2 _ rfl, ?_⟩
          refine (ret23 x.text _ esc w2.drew (by omega) (ce w2.drew dr)).go fun w20 hk20 => ⟨_, rfl, kept_keeps kept (dr.trans hk20), by simp; omega, by simp; omega, ?_⟩
          refine (ret35 x.more w20 (hown.2.2.2.2.2 h).2 (by omega)).go fun w21 hk21 => ⟨_, rfl, ?_⟩
          refine (ret23 x.more _ esc w21 (by omega) (ce w21 ((dr.trans hk20).trans hk21))).go fun w22 hk22 => ⟨_, rfl, by simp; omega, by simp; omega, wrap _ _ w22 (hk02.trans (((dr.trans hk20).trans hk21).trans hk22)) (by simp; omega) ?_⟩
          rw [etext]; simp [ownT, h]
        · have h : x.kind = 12 := of_decide_eq_true h
          refine ⟨_, kept, x.text, mem 1 _ rfl, bp, x.b.length, bc, mem 6 _ rfl, ?_⟩
          refine (ret23 x.text _ esc w2.drew (by omega) (ce w2.drew dr)).go fun w20 hk20 => ⟨_, rfl, kept_keeps kept (dr.trans hk20), by simp; omega, by simp; omega, ?_⟩
          refine (ret33 bp bc x.b w20 (fun j b hj => let ⟨a, ha, hc⟩ := ho.1 j b hj; ⟨a, ha, (hk02.trans (dr.trans hk20)).cell hc⟩) (by omega)).go fun w21 hk21 => ⟨_, rfl, by simp; omega, by simp; omega, wrap _ _ w21 (hk02.trans ((dr.trans hk20).trans hk21)) (by simp; omega) ?_⟩
          rw [etext]; simp [ownT, h]
        · have h : x.kind = 13 := of_decide_eq_true h
          exact ⟨x.text, hv2.lies.at 1 rfl rfl, (ret23 x.text _ esc w2 (by omega) (ce w2 (Keeps.refl _))).go fun w9 hk9 => ⟨_, rfl, wrap _ _ w9 (hk02.trans hk9) (by simp; omega) (by rw [etext]; simp [ownT, h])⟩⟩
        · have h : x.kind = 14 := of_decide_eq_true h
          exact ⟨x.text, hv2.lies.at 1 rfl rfl, (ret23 x.text _ esc w2 (by omega) (ce w2 (Keeps.refl _))).go fun w9 hk9 => ⟨_, rfl, wrap _ _ w9 (hk02.trans hk9) (by simp; omega) (by rw [etext]; simp [ownT, h])⟩⟩
        · have h : x.kind = 15 := of_decide_eq_true h
          have e : tv = [123, 34, 36, 99, 111, 100, 101, 34, 58] ++ strF esc x.text ++ [44, 34, 36, 115, 99, 111, 112, 101, 34, 58] ++ kidsT esc true (x.kids.map fun p => (p.1, textV F can esc d p.2)) ++ [125] := by rw [etext]; simp [ownT, h]
          have hel := congrArg List.length e
          simp only [List.length_append, List.length_cons, List.length_nil] at hel
          refine ⟨kp, x.kids.length, kc, hv2.lies.at 7 rfl rfl, esc, ce w2 (Keeps.refl _), ?_⟩
          refine (kidsCall (by omega) (.mk 3 [] [] 0 0 0 [] x.kids) none 0 w2 rfl (.inl rfl) hk02).go fun w31 hk31 => ⟨_, _, rfl, x.text, (hv2.keeps hk31).lies.at 1 rfl rfl, ?_⟩
          refine (ret23 x.text _ esc w31 (by omega) (ce w31 hk31)).go fun w32 hk32 => ⟨_, rfl, ?_⟩
          have hd3 : decide ((Val.mk 3 [] [] 0 0 0 [] x.kids).kind = 3) = true := rfl
          rw [hd3]
          exact ⟨by simp; omega, by simp; omega, by simp only [List.length_append, List.length_cons, List.length_nil]; omega, by simp only [List.length_append, List.length_cons, List.length_nil]; omega, fin _ _ (hk02.trans (hk31.trans hk32)) e⟩
        · have h : x.kind = 16 := of_decide_eq_true h
          refine ⟨fun hc => ⟨x.num, hv2.lies.at 3 rfl rfl, (ret34 x.num ho.2.2.2.1.1 ho.2.2.2.1.2 w2 (ht.keeps hk02).pow).go fun w18 hk18 => ⟨_, rfl, by simp; omega, by simp; omega, wrap _ _ w18 (hk02.trans hk18) (by simp; omega) (by rw [etext]; simp [ownT, h, hc])⟩⟩,
            fun hc => ⟨x.num, hv2.lies.at 3 rfl rfl, (ret34 x.num ho.2.2.2.1.1 ho.2.2.2.1.2 w2 (ht.keeps hk02).pow).go fun w18 hk18 => ⟨_, rfl, fin _ _ (hk02.trans hk18) (by rw [etext]; simp [ownT, h, hc])⟩⟩⟩
        · have h : x.kind = 17 := of_decide_eq_true h
          have hb0 := ho.2.2.2.2.1
          obtain ⟨B, hB⟩ : ∃ B : Nat, x.bits = B := ⟨x.bits.toNat, by unfold inU64 at hb0; omega⟩
          have hBl : B < 18446744073709551616 := by unfold inU64 at hb0; omega
          have q1 := decF_len64 (B / 2 ^ 32) (Nat.lt_of_le_of_lt (Nat.div_le_self _ _) hBl)
          have q2 := decF_len64 (B % 2 ^ 32) (Nat.lt_of_le_of_lt (Nat.mod_le _ _) hBl)
          refine ⟨_, kept, x.bits, mem 4 _ rfl, by decide, ((B / 2 ^ 32 : Nat) : Int), by rw [hB]; exact fdiv_nat B 32, x.bits, mem 4 _ rfl, ((B % 2 ^ 32 : Nat) : Int), by rw [hB]; exact u64_mask B 32 hBl (by decide), ?_⟩
          refine (ret36 (B / 2 ^ 32) (Nat.lt_of_le_of_lt (Nat.div_le_self _ _) hBl) w2.drew (ht.keeps (hk02.trans dr)).pow).go fun w36 hk36 => ⟨_, rfl, kept_keeps kept (dr.trans hk36), by simp only [List.length_append, List.length_cons, List.length_nil]; omega, by simp only [List.length_append, List.length_cons, List.length_nil]; omega, ?_⟩
          refine (ret36 (B % 2 ^ 32) (Nat.lt_of_le_of_lt (Nat.mod_le _ _) hBl) w36 (ht.keeps (hk02.trans (dr.trans hk36))).pow).go fun w37 hk37 => ⟨_, rfl, by simp only [List.length_append, List.length_cons, List.length_nil]; omega, by simp only [List.length_append, List.length_cons, List.length_nil]; omega, wrap _ _ w37 (hk02.trans ((dr.trans hk36).trans hk37)) (by simp only [List.length_append, List.length_cons, List.length_nil]; omega) ?_⟩
          rw [etext]; simp [ownT, h, hB]
        · have h : x.kind = 18 := of_decide_eq_true h
          refine ⟨fun hc => ⟨x.num, hv2.lies.at 3 rfl rfl, (ret34 x.num ho.2.2.2.1.1 ho.2.2.2.1.2 w2 (ht.keeps hk02).pow).go fun w18 hk18 => ⟨_, rfl, by simp; omega, by simp; omega, wrap _ _ w18 (hk02.trans hk18) (by simp; omega) (by rw [etext]; simp [ownT, h, hc])⟩⟩,
            fun hc => ⟨x.num, hv2.lies.at 3 rfl rfl, (ret34 x.num ho.2.2.2.1.1 ho.2.2.2.1.2 w2 (ht.keeps hk02).pow).go fun w18 hk18 => ⟨_, rfl, fin _ _ (hk02.trans hk18) (by rw [etext]; simp [ownT, h, hc])⟩⟩⟩
        · have h : x.kind = 19 := of_decide_eq_true h
          have hb0 := ho.2.2.2.2.1
          have hh0 := ho.2.2.2.2.2.1
          obtain ⟨B, hB⟩ : ∃ B : Nat, x.bits = B := ⟨x.bits.toNat, by unfold inU64 at hb0; omega⟩
          obtain ⟨H, hH⟩ : ∃ H : Nat, x.high = H := ⟨x.high.toNat, by unfold inU64 at hh0; omega⟩
          have hBl : B < 18446744073709551616 := by unfold inU64 at hb0; omega
          have hHl : H < 18446744073709551616 := by unfold inU64 at hh0; omega
          have dk := decOf_ok H B hHl hBl
          have q1 := decTextF_len _ dk.2.1 dk.2.2.1 dk.2.2.2
          have e : tv = wrapF [36, 110, 117, 109, 98, 101, 114, 68, 101, 99, 105, 109, 97, 108] ([34] ++ decTextF (decOf H B) ++ [34]) := by rw [etext]; simp [ownT, h, hB, hH]
          refine ⟨x.high, hv2.lies.at 5 rfl rfl, x.bits, hv2.lies.at 4 rfl rfl, ?_⟩
          rw [hH, hB]
          refine (ret38 H B hHl hBl w2).go fun w42 hk42 => ⟨_, rfl, ?_⟩
          refine (ret37 (decOf H B) w42 dk.1 dk.2.1 (by omega) dk.2.2.2).go fun w43 hk43 => ⟨_, rfl, ?_⟩
          generalize decTextF (decOf H B) = s at *
          exact ⟨by simp; omega, by simp; omega, wrap _ _ w43 (hk02.trans (hk42.trans hk43)) (by simp; omega) e⟩
        · have h : x.kind = 255 := of_decide_eq_true h
          exact wrap _ _ w2 hk02 (by simp) (by rw [etext]; simp [ownT, h])
        · have h : x.kind = 127 := of_decide_eq_true h
          exact wrap _ _ w2 hk02 (by simp) (by rw [etext]; simp [ownT, h])
        · exfalso
          have hkn := hright.1
          simp only [knownB, Bool.or_eq_true, Bool.and_eq_true, decide_eq_true_eq] at hkn
          simp only [decide_eq_false_iff_not] at *
          omega
    exact ⟨fun h3 => key _ (by rw [h3]; simp [of_decide_eq_true h3]), fun h3 => key _ (by have := of_decide_eq_false h3; simp [this])⟩
end Go.Proofs.Tryz
