/- Parts of a proof, joined: B27, B28, B29, VY, VZ, B30, B31, B32. -/
import Derived.Test.YtfofafjemgfobaaGreatDoorX23
import Derived.Test.YtfofafjemgfobaaGreatDoorX4
set_option linter.unusedVariables false
namespace Go.Proofs.Tryz
open Go.Vc Go.RowKit
structure EscB (w : World) : Prop where
  html : ∀ i, i < 128 → w.cell? ⟨2, i, none⟩ = some (.bool (htmlB i))
  utf : Lib.Utf8Tabs 10 11 w
theorem EscB.keeps {w w' : World} (h : EscB w) (k : Keeps w w') : EscB w' :=
  ⟨fun i hi => k.cell (h.html i hi), fun c hc => k.cell (h.utf.1 c hc), fun i hi => ⟨k.cell (h.utf.2 i hi).1, k.cell (h.utf.2 i hi).2⟩⟩
theorem EscB.below {w w' : World} (h : EscB w) {B : Nat} (k : Below B w w') (hB : 11 < B) : EscB w' := by
  have c : ∀ {a : Addr} {v : Value}, a.block < B → w.cell? a = some v → w'.cell? a = some v := fun ha hc => below_cell k ha hc
  exact ⟨fun i hi => c (show 2 < B by omega) (h.html i hi), fun x hx => c (show 10 < B by omega) (h.utf.1 x hx), fun i hi => ⟨c (show 11 < B by omega) (h.utf.2 i hi).1, c (show 11 < B by omega) (h.utf.2 i hi).2⟩⟩
set_option maxHeartbeats 4000000 in
theorem ret82 (s : List UInt8) (w0 : World) (hu : utf8F s = true) (hs : s.length ≤ 1073741824) (ht : EscB w0) (hw11 : 11 < w0.heap.size) :
    Ret 82 [.string (mkS s)] w0 (.string (mkS (strF true s))) := by
  refine Ret.of (c82 s w0 _ ?_)
  unfold VC82
  intro w hw
  have hk0 : Keeps w0 w := by rw [hw]; exact (Keeps.refl w0).alloc _
  have ht : EscB w := ht.keeps hk0
  have hb : Buf w0.heap.size [] w := by rw [hw]; exact Buf.new w0
  obtain ⟨l, hl0⟩ : ∃ l : List UInt8, l = [] := ⟨_, rfl⟩
  obtain ⟨esc, hesc1⟩ : ∃ e : Bool, e = true := ⟨_, rfl⟩
  rw [← hl0] at hb
  have hl : l.length ≤ 1073741824 := by rw [hl0]; simp
  have hb11 : 11 < w0.heap.size := hw11
  have hfinal : ∀ w', Buf w0.heap.size (l ++ strF esc s) w' → Below w0.heap.size w w' → Calls prog 42 ⟨[.pointer (some ⟨w0.heap.size, 0, none⟩)]⟩ w' fun e w36 => ∃ x142 : List UInt8, e = .returned (.string (mkS x142)) ∧ (Value.string (mkS x142) = .string (mkS (strF true s)) ∧ Keeps w0 w36) := by
    intro w' hb' hk'
    refine hb'.out.go fun w36 hk36 => ⟨_, rfl, by rw [hl0, List.nil_append, hesc1], Below.trans (Below.trans hk0 hk') (hk36.below (Nat.le_of_lt hb'.lt))⟩
  clear hw
  generalize w0.heap.size = b at *
  refine (hb.byte 34 (by omega)).mono ?_
  rintro e w1 ⟨rfl, hb1, hk1⟩
  refine ⟨rfl, fun m st i w2 => Below b w w2 ∧ ∃ (a k : Nat) (acc : List UInt8), st = a ∧ i = k ∧ a ≤ k ∧ k ≤ s.length ∧ m = s.length - k ∧ Buf b (l ++ acc) w2 ∧ acc.length ≤ 1 + 6 * a ∧ utf8F (s.drop k) = true ∧
    34 :: escF esc s = acc ++ (s.drop a).take (k - a) ++ escF esc (s.drop k), ⟨s.length, hk1, 0, 0, [34], rfl, rfl, by omega, by omega, rfl, hb1, by simp, by simpa using hu, by simp⟩, ?_⟩
  rintro m st i w2 ⟨hk2, a, k, acc, rfl, rfl, hak, hks, rfl, hb2, hal, hu2, hesc⟩
  have pend : ((s.drop a).take (k - a)).length = k - a := by rw [List.length_take, List.length_drop]; omega
  -- what is pending is written
  have flush : ∀ (w3 : World) (K : World → Prop), Below b w w3 → Buf b (l ++ acc) w3 → (∀ w4, Below b w w4 → Buf b (l ++ (acc ++ (s.drop a).take (k - a))) w4 → K w4) →
      (decide ((a : Int) < (k : Int)) = true → ((0 : Int) ≤ (a : Int) ∧ (a : Int) ≤ (k : Int) ∧ (k : Int) ≤ (s.length : Int)) ∧
        Calls prog 141 ⟨[.pointer (some ⟨b, 0, none⟩), .string (mkS ((s.drop (a : Int).toNat).take ((k : Int).toNat - (a : Int).toNat)))]⟩ w3 fun e w21 => ∃ x44 : Int, e = .returned (.tuple ⟨[.int .i64 x44, .nilIface]⟩) ∧ K w21) ∧
      (decide ((a : Int) < (k : Int)) = false → K w3) := by
    intro w3 K hk3 hb3 hK
    refine ⟨fun h => ⟨⟨by omega, by omega, by omega⟩, ?_⟩, fun h => ?_⟩
    · simp only [Int.toNat_natCast]
      refine (hb3.str ((s.drop a).take (k - a)) (by rw [pend]; simp only [List.length_append]; omega)).mono ?_
      rintro e w4 ⟨rfl, hb4, hk4⟩
      exact ⟨_, rfl, hK w4 (hk3.trans hk4) (by rw [← List.append_assoc]; exact hb4)⟩
    · have h := of_decide_eq_false h
      refine hK w3 hk3 ?_
      have : k - a = 0 := by omega
      rw [this, List.take_zero, List.append_nil]; exact hb3
  refine ⟨fun h => ?_, fun h => ?_⟩
  · have h := of_decide_eq_true h
    have hlt : k < s.length := by omega
    obtain ⟨x, hx⟩ : ∃ x, s[k]? = some x := ⟨_, List.getElem?_eq_getElem hlt⟩
    have hxl := x.toNat_lt
    have hdc := drop_cons hx
    have hne : s.drop k ≠ [] := by rw [hdc]; simp
    have huc := utf8F_cons (s.drop k) hne
    rw [hu2] at huc
    have hr0 : (runeF (s.drop k)).1 ≠ 0 := by
      intro e; rw [e] at huc; simp at huc
    have hstep : stepF (s.drop k) = ((runeF (s.drop k)).1, (runeF (s.drop k)).2, true) := by unfold stepF; rw [if_neg hr0]
    have hun : utf8F (s.drop (k + (runeF (s.drop k)).1)) = true := by
      rw [hstep] at huc
      have := huc.symm
      simp only [Bool.and_eq_true] at this
      rw [List.drop_drop] at this
      exact this.2
    have hcons := escF_cons esc (s.drop k) hne
    rw [hstep, List.drop_drop] at hcons
    have hle := stepF_le (s.drop k) hne
    rw [hstep, List.length_drop] at hle
    simp only [] at hcons hle
    refine ⟨x, ⟨by omega, hx⟩, fun h128 => ?_, fun h128 => ?_⟩
    · -- a byte of ASCII
      have h128 : x.toNat < 128 := by have := of_decide_eq_true h128; omega
      have hrune : runeF (s.drop k) = (1, x.toNat) := by rw [hdc, runeF, if_pos h128]
      rw [hrune] at hcons hun hle
      simp only [] at hcons hun hle
      have ht1 : (s.drop k).take 1 = [x] := by rw [hdc]; rfl
      rw [ht1] at hcons
      have hx1 : UInt8.ofNat x.toNat = x := by simp
      -- nothing stands for it
      have skip : piece esc [x] x.toNat = [x] → ∃ x35 : Int, IntKind.i64.wrap ((k : Int) + 1) = x35 ∧ ∃ m_1, m_1 < s.length - k ∧ (Below b w w2 ∧ ∃ (a' k' : Nat) (acc' : List UInt8), (a : Int) = a' ∧ x35 = k' ∧ a' ≤ k' ∧ k' ≤ s.length ∧ m_1 = s.length - k' ∧ Buf b (l ++ acc') w2 ∧ acc'.length ≤ 1 + 6 * a' ∧ utf8F (s.drop k') = true ∧
          34 :: escF esc s = acc' ++ (s.drop a').take (k' - a') ++ escF esc (s.drop k')) := by
        intro hp
        refine ⟨_, i64w (by omega) (by omega), s.length - (k + 1), by omega, hk2, a, k + 1, acc, rfl, by omega, by omega, by omega, rfl, hb2, by omega, hun, ?_⟩
        rw [hesc, hcons, hp, seg_step s a k 1 hak, ht1]
        simp [List.append_assoc]
      -- something stands for it
      have done : ∀ (w' : World) (out : List UInt8), piece esc [x] x.toNat = out → out.length ≤ 6 → Below b w w' → Buf b (l ++ (acc ++ (s.drop a).take (k - a) ++ out)) w' →
          ∃ x97 : Int, IntKind.i64.wrap ((k : Int) + 1) = x97 ∧ ∃ m_1, m_1 < s.length - k ∧ (Below b w w' ∧ ∃ (a' k' : Nat) (acc' : List UInt8), x97 = a' ∧ x97 = k' ∧ a' ≤ k' ∧ k' ≤ s.length ∧ m_1 = s.length - k' ∧ Buf b (l ++ acc') w' ∧ acc'.length ≤ 1 + 6 * a' ∧ utf8F (s.drop k') = true ∧
          34 :: escF esc s = acc' ++ (s.drop a').take (k' - a') ++ escF esc (s.drop k')) := by
        intro w' out hp hol hk' hb'
        refine ⟨_, i64w (by omega) (by omega), s.length - (k + 1), by omega, hk', k + 1, k + 1, _, by omega, by omega, by omega, by omega, rfl, hb', ?_, hun, ?_⟩
        · simp only [List.length_append, pend]; omega
        · rw [hesc, hcons, hp]
          simp [List.append_assoc]
      intro Kx hK
      have keyx : ¬ (htmlB x.toNat = true) → ¬ (esc = false ∧ safeB x.toNat = true) → Kx (k : Int) w2 := by
        intro hnh hns
        refine hK _ w2 ?_
        intro K1 hK1
        have key1 : ∀ w4, Below b w w4 → Buf b (l ++ (acc ++ (s.drop a).take (k - a))) w4 → K1 w4 := by
          intro w4 hk4 hb4
          refine hK1 w4 ?_
          have hl4 : (l ++ (acc ++ (s.drop a).take (k - a))).length ≤ 20000000000 := by simp only [List.length_append, pend]; omega
          -- two bytes stand for it
          have two : ∀ y : UInt8, piece esc [x] x.toNat = [92, y] → Calls prog 140 ⟨[.pointer (some ⟨b, 0, none⟩), .int .u8 92]⟩ w4 fun e w6 => e = .returned .nilIface ∧ 
                Calls prog 140 ⟨[.pointer (some ⟨b, 0, none⟩), .int .u8 (y.toNat : Int)]⟩ w6 fun e w7 => e = .returned .nilIface ∧
                ∃ x97 : Int, IntKind.i64.wrap ((k : Int) + 1) = x97 ∧ ∃ m_1, m_1 < s.length - k ∧ (Below b w w7 ∧ ∃ (a' k' : Nat) (acc' : List UInt8), x97 = a' ∧ x97 = k' ∧ a' ≤ k' ∧ k' ≤ s.length ∧ m_1 = s.length - k' ∧ Buf b (l ++ acc') w7 ∧ acc'.length ≤ 1 + 6 * a' ∧ utf8F (s.drop k') = true ∧
                  34 :: escF esc s = acc' ++ (s.drop a').take (k' - a') ++ escF esc (s.drop k')) := by
            intro y hp
            refine (hb4.byte 92 (by omega)).mono ?_
            rintro e w6 ⟨rfl, hb6, hk6⟩
            refine ⟨rfl, (hb6.byte y (by rw [List.length_append]; simp only [List.length_cons, List.length_nil]; omega)).mono ?_⟩
            rintro e w7 ⟨rfl, hb7, hk7⟩
            refine ⟨rfl, done w7 [92, y] hp (by simp) ((hk4.trans hk6).trans hk7) ?_⟩
            have e1 : l ++ (acc ++ (s.drop a).take (k - a) ++ [92, y]) = l ++ (acc ++ (s.drop a).take (k - a)) ++ [92] ++ [y] := by simp [List.append_assoc]
            rw [e1]; exact hb7
          intro K2 hK2
          have key2 : ∀ q : Bool, (q = true ↔ (x.toNat = 92 ∨ x.toNat = 34)) → K2 q w4 := by
            intro q hq
            refine hK2 q w4 ⟨fun hqt => two x (by unfold piece; rw [if_pos (by have := hq.1 hqt; omega), hx1]), fun hqf => ?_⟩
            have hq' : ¬ (x.toNat = 34 ∨ x.toNat = 92) := fun e => by rw [hq.2 (by omega)] at hqf; cases hqf
            have pc : ∀ y, (x.toNat = 8 ∨ x.toNat = 9 ∨ x.toNat = 10 ∨ x.toNat = 12 ∨ x.toNat = 13) → ([98, 116, 110, 46, 102, 114] : List UInt8).getD (x.toNat - 8) 0 = y → piece esc [x] x.toNat = [92, y] := by
              intro y h1 h2; unfold piece; rw [if_neg hq', if_pos h1, h2]
            refine ⟨fun hc => two 110 (by
              have h' : x.toNat = 10 := by have := of_decide_eq_true hc; omega
              exact pc 110 (by omega) (by rw [h']; rfl)), fun h10 => ⟨fun hc => two 114 (by
              have h' : x.toNat = 13 := by have := of_decide_eq_true hc; omega
              exact pc 114 (by omega) (by rw [h']; rfl)), fun h13 => ⟨fun hc => two 116 (by
              have h' : x.toNat = 9 := by have := of_decide_eq_true hc; omega
              exact pc 116 (by omega) (by rw [h']; rfl)), fun h9 => ⟨fun hc => two 98 (by
              have h' : x.toNat = 8 := by have := of_decide_eq_true hc; omega
              exact pc 98 (by omega) (by rw [h']; rfl)), fun h8 => ⟨fun hc => two 102 (by
              have h' : x.toNat = 12 := by have := of_decide_eq_true hc; omega
              exact pc 102 (by omega) (by rw [h']; rfl)), fun h12 => ?_⟩⟩⟩⟩⟩
            have n10 : ¬ x.toNat = 10 := by have := of_decide_eq_false h10; omega
            have n13 : ¬ x.toNat = 13 := by have := of_decide_eq_false h13; omega
            have n9 : ¬ x.toNat = 9 := by have := of_decide_eq_false h9; omega
            have n8 : ¬ x.toNat = 8 := by have := of_decide_eq_false h8; omega
            have n12 : ¬ x.toNat = 12 := by have := of_decide_eq_false h12; omega
            have hp : piece esc [x] x.toNat = [92, 117, 48, 48] ++ hex2 x.toNat := by
              unfold piece
              rw [if_neg hq', if_neg (by omega), if_pos]
              by_cases h32 : x.toNat < 32
              · exact .inl h32
              · right
                have hh : x.toNat = 60 ∨ x.toNat = 62 ∨ x.toNat = 38 := by
                  apply Classical.byContradiction
                  intro hcon
                  apply hnh
                  unfold htmlB
                  have a1 : 32 ≤ x.toNat := by omega
                  have b1 : (x.toNat == 34) = false := by rw [beq_eq_false_iff_ne]; omega
                  have b2 : (x.toNat == 92) = false := by rw [beq_eq_false_iff_ne]; omega
                  have b3 : (x.toNat == 60) = false := by rw [beq_eq_false_iff_ne]; omega
                  have b4 : (x.toNat == 62) = false := by rw [beq_eq_false_iff_ne]; omega
                  have b5 : (x.toNat == 38) = false := by rw [beq_eq_false_iff_ne]; omega
                  rw [b1, b2, b3, b4, b5]; simp [a1]
                refine ⟨?_, hh⟩
                cases esc with
                | true => rfl
                | false =>
                  exfalso
                  apply hns
                  refine ⟨rfl, ?_⟩
                  unfold safeB
                  have a1 : 32 ≤ x.toNat := by omega
                  have b1 : (x.toNat == 34) = false := by rw [beq_eq_false_iff_ne]; omega
                  have b2 : (x.toNat == 92) = false := by rw [beq_eq_false_iff_ne]; omega
                  rw [b1, b2]; simp [a1]
            refine (hb4.str [92, 117, 48, 48] (by simp only [List.length_cons, List.length_nil]; omega)).mono ?_
            rintro e w18 ⟨rfl, hb18, hk18⟩
            refine ⟨_, rfl, by decide, ((x.toNat / 16 : Nat) : Int), fdiv_nat x.toNat 4, hexD (x.toNat / 16), ⟨by omega, by rw [Int.toNat_natCast]; exact hexD_get _ (by omega)⟩, ?_⟩
            refine (hb18.byte (hexD (x.toNat / 16)) (by rw [List.length_append]; simp only [List.length_cons, List.length_nil]; omega)).mono ?_
            rintro e w19 ⟨rfl, hb19, hk19⟩
            refine ⟨rfl, ((x.toNat % 16 : Nat) : Int), hex_and15 x.toNat (by omega), hexD (x.toNat % 16), ⟨by omega, by rw [Int.toNat_natCast]; exact hexD_get _ (by omega)⟩, ?_⟩
            refine (hb19.byte (hexD (x.toNat % 16)) (by rw [List.length_append, List.length_append]; simp only [List.length_cons, List.length_nil]; omega)).mono ?_
            rintro e w20 ⟨rfl, hb20, hk20⟩
            refine ⟨rfl, done w20 _ hp (by simp [hex2]) (((hk4.trans hk18).trans hk19).trans hk20) ?_⟩
            have e1 : l ++ (acc ++ (s.drop a).take (k - a) ++ ([92, 117, 48, 48] ++ hex2 x.toNat)) = l ++ (acc ++ (s.drop a).take (k - a)) ++ [92, 117, 48, 48] ++ [hexD (x.toNat / 16)] ++ [hexD (x.toNat % 16)] := by simp [hex2, List.append_assoc]
            rw [e1]; exact hb20
          refine ⟨fun h92 => key2 _ ?_, fun h92 => key2 _ ?_⟩
          · have h := of_decide_eq_true h92
            simp only [decide_eq_true_eq]; omega
          · have h := of_decide_eq_false h92
            simp only [decide_eq_true_eq]; omega
        exact flush w2 K1 hk2 hb2 key1
      have ht2 : EscB w2 := ht.below hk2 hb11
      have eadd : ∀ g : Nat, ((⟨g, 0, none⟩ : Addr).add (((x.toNat : Nat) : Int).toNat * 1)) = ⟨g, x.toNat, none⟩ := fun g => by rw [add_at, Nat.zero_add, Nat.mul_one, Int.toNat_natCast]
      refine ⟨⟨by omega, by omega⟩, htmlB x.toNat, by rw [eadd]; exact ht2.html _ h128, fun hh => skip ?_, fun hh => keyx (by rw [hh]; decide) (by rw [hesc1]; simp)⟩
      unfold htmlB at hh
      simp only [Bool.and_eq_true, decide_eq_true_eq, Bool.not_eq_true', Bool.or_eq_false_iff, beq_eq_false_iff_ne] at hh
      unfold piece
      rw [if_neg (by omega), if_neg (by omega), if_neg (by omega), if_neg (by omega)]
    · -- a greater character
      have h128 : 128 ≤ x.toNat := by have := of_decide_eq_false h128; omega
      have hbig := rune_big x (s.drop (k + 1)) h128 (by rw [← hdc]; exact hr0)
      rw [← hdc] at hbig
      have hdec := rune_decode (s.drop k) hr0
      have hClt := stepF_lt (s.drop k)
      rw [hstep] at hClt
      generalize hN : (runeF (s.drop k)).1 = N at *
      generalize hC : (runeF (s.drop k)).2 = C at *
      simp only [] at hClt
      have ht2 : EscB w2 := ht.below hk2 hb11
      refine ⟨⟨by omega, by omega⟩, ?_⟩
      rw [Int.toNat_natCast]
      refine (utf8_DecodeRuneInString (mkS (s.drop k)) w2 ht2.utf).mono ?_
      rintro e w22 ⟨rfl, hk22⟩
      rw [hdec]
      refine ⟨(C : Int), (N : Int), rfl, ?_⟩
      have hk22' : Below b w w22 := hk2.trans (Below.mono hk22 (Nat.le_of_lt hb2.lt))
      have hb22 : Buf b (l ++ acc) w22 := by
        obtain ⟨h1, v, lr, h2, h3, h4⟩ := hb2
        refine ⟨h1, v, lr, by rw [Below.block hk22 b (Array.getElem?_eq_some_iff.1 h2).1]; exact h2, ?_, h4⟩
        obtain ⟨p, c, rfl⟩ := slice_of_owns h3
        have ho : Own b w2 p _ c (l ++ acc) := ⟨h3, by rw [bc_length]⟩
        exact (ho.keeps hk22).1
      intro K3 hK3
      have key3 : K3 (a : Int) (k : Int) w22 := by
        refine hK3 _ _ w22 ?_
        intro K4 hK4
        have key4 : ∀ q : Bool, (q = true ↔ (C = 8232 ∨ C = 8233)) → K4 q w22 := by
          intro q hq
          refine hK4 q w22 ⟨fun hqt => ?_, fun hqf => ?_⟩
          · have hc := hq.1 hqt
            intro K5 hK5
            have key5 : ∀ w25, Below b w w25 → Buf b (l ++ (acc ++ (s.drop a).take (k - a))) w25 → K5 w25 := by
              intro w25 hk25 hb25
              refine hK5 w25 ?_
              have hl25 : (l ++ (acc ++ (s.drop a).take (k - a))).length ≤ 20000000000 := by simp only [List.length_append, pend]; omega
              refine (hb25.str [92, 117, 50, 48, 50] (by simp only [List.length_cons, List.length_nil]; omega)).mono ?_
              rintro e w26 ⟨rfl, hb26, hk26⟩
              have hd : hexD (C % 16) = UInt8.ofNat (56 + C - 8232) := by rcases hc with h | h <;> rw [h] <;> rfl
              refine ⟨_, rfl, ((C % 16 : Nat) : Int), hex_and15i C (by omega), hexD (C % 16), ⟨by omega, by rw [Int.toNat_natCast]; exact hexD_get _ (by omega)⟩, ?_⟩
              refine (hb26.byte (hexD (C % 16)) (by rw [List.length_append]; simp only [List.length_cons, List.length_nil]; omega)).mono ?_
              rintro e w27 ⟨rfl, hb27, hk27⟩
              refine ⟨rfl, _, i64w (by omega) (by omega), s.length - (k + N), by omega, (hk25.trans hk26).trans hk27, k + N, k + N, acc ++ (s.drop a).take (k - a) ++ ([92, 117, 50, 48, 50] ++ [hexD (C % 16)]), by omega, by omega, by omega, by omega, rfl, ?_, ?_, hun, ?_⟩
              · have e1 : l ++ (acc ++ (s.drop a).take (k - a) ++ ([92, 117, 50, 48, 50] ++ [hexD (C % 16)])) = l ++ (acc ++ (s.drop a).take (k - a)) ++ [92, 117, 50, 48, 50] ++ [hexD (C % 16)] := by simp [List.append_assoc]
                rw [e1]; exact hb27
              · simp only [List.length_append, pend, List.length_cons, List.length_nil]; omega
              · rw [hesc, hcons]
                have : piece esc ((s.drop k).take N) C = [92, 117, 50, 48, 50] ++ [hexD (C % 16)] := by
                  unfold piece
                  rw [if_neg (by omega), if_neg (by omega), if_neg (by omega), if_pos hc, hd]
                rw [this]; simp [List.append_assoc]
            exact flush w22 K5 hk22' hb22 key5
          · have hc : ¬ (C = 8232 ∨ C = 8233) := fun e => by rw [hq.2 e] at hqf; cases hqf
            refine ⟨_, i64w (by omega) (by omega), s.length - (k + N), by omega, hk22', a, k + N, acc, rfl, by omega, by omega, by omega, rfl, hb22, by omega, hun, ?_⟩
            rw [hesc, hcons, seg_step s a k N hak]
            have : piece esc ((s.drop k).take N) C = (s.drop k).take N := by
              unfold piece
              rw [if_neg (by omega), if_neg (by omega), if_neg (by omega), if_neg hc]
            rw [this]; simp [List.append_assoc]
        refine ⟨fun h => key4 _ ?_, fun h => key4 _ ?_⟩
        · have h := of_decide_eq_true h
          simp only [true_iff]; omega
        · have h := of_decide_eq_false h
          simp only [decide_eq_true_eq]; omega
      intro K6 hK6
      have key6 : ∀ q : Bool, q = false → K6 q w22 := by
        intro q hq
        exact hK6 q w22 ⟨fun h => (by rw [hq] at h; cases h), fun _ => key3⟩
      exact ⟨fun _ => key6 _ (decide_eq_false (by omega)), fun _ => key6 _ rfl⟩
  · have h := of_decide_eq_false h
    have hk : k = s.length := by omega
    have hd : s.drop k = [] := List.drop_eq_nil_of_le (by omega)
    rw [hd, escF_nil, List.append_nil] at hesc
    have hta : (s.drop a).take (k - a) = s.drop a := List.take_of_length_le (by rw [List.length_drop]; omega)
    rw [hta] at hesc
    have hfin : l ++ strF esc s = l ++ acc ++ s.drop a ++ [34] := by
      have : strF esc s = (34 :: escF esc s) ++ [34] := rfl
      rw [this, hesc]; simp [List.append_assoc]
    rw [hfin] at hfinal
    refine ⟨fun h1 => ⟨⟨by omega, by omega⟩, ?_⟩, fun h1 => ?_⟩
    · rw [Int.toNat_natCast]
      refine (hb2.str (s.drop a) (by simp only [List.length_append, List.length_drop]; omega)).mono ?_
      rintro e w33 ⟨rfl, hb33, hk33⟩
      refine ⟨_, rfl, (hb33.byte 34 (by simp only [List.length_append, List.length_drop]; omega)).mono ?_⟩
      rintro e w34 ⟨rfl, hb34, hk34⟩
      exact ⟨rfl, hfinal _ hb34 ((hk2.trans hk33).trans hk34)⟩
    · have h1 := of_decide_eq_false h1
      have : s.drop a = [] := List.drop_eq_nil_of_le (by omega)
      rw [this, List.append_nil] at hfinal
      refine (hb2.byte 34 (by simp only [List.length_append]; omega)).mono ?_
      rintro e w34 ⟨rfl, hb34, hk34⟩
      exact ⟨rfl, hfinal _ hb34 (hk2.trans hk34)⟩
theorem ret206 (T : Val → List UInt8) (name : List UInt8) (y : Val) (V : List UInt8) (hV : bytesT T y = V) (p : Option Addr) (n c : Nat) (w : World) (hg : GoodB T y) (hname : (0 : UInt8) ∉ name)
    (hk8 : ((b8 y.kind).toNat : Int) = y.kind) (hr : ReadsB w p (elemV name y V)) (hn : n = (elemV name y V).length) (hc : n ≤ c) (hlim : n ≤ 2000000000) :
    Ret 206 [.slice p n c] w (.tuple ⟨[.agg ⟨[.int .u8 y.kind, .slice (slAddr p c (name.length + 2) 1) V.length (c - (name.length + 2))]⟩, .nilIface]⟩) := by
  have hnl := hn
  rw [elemV_len] at hnl
  refine Ret.of (c206 p n c w _ ?_)
  unfold VC206
  intro w1 hw1
  have hk1 : Keeps w w1 := by rw [hw1]; exact (Keeps.refl w).alloc _
  have hv1 : Var w1 w.heap.size 92 [.int .u8 0, .slice none 0 0] := by rw [hw1]; exact var_alloc w _ 92
  have e1 : elemV name y V = [b8 y.kind] ++ (name ++ 0 :: V) := by simp [elemV, List.append_assoc]
  have hr1 := hr.keeps hk1
  have hd := reads_drop hr1 (by rw [← hn]; exact hc) 1
  have ed : (elemV name y V).drop 1 = name ++ 0 :: V := by rw [e1]; rfl
  rw [ed] at hd
  refine ⟨fun h => by have := of_decide_eq_true h; omega, fun _ => ⟨⟨by omega, by omega, by omega⟩, ?_⟩⟩
  refine (ret136 _ _ _ name V w1 hname hd (by simp only [List.length_append, List.length_cons]; omega)).go fun w3 hk3 => ⟨_, rfl, (fun h => by have := of_decide_eq_true h; omega), fun _ => ?_⟩
  have hr3 := hr1.keeps hk3
  obtain ⟨a, ha, hc0⟩ := hr3 0 (b8 y.kind) (by rw [e1]; rfl)
  have e0 : a.add 0 = a := by simp [Addr.add]
  rw [e0, hk8] at hc0
  have hd3 := reads_drop hr3 (by rw [← hn]; exact hc) (name.length + 2)
  have ed3 : (elemV name y V).drop (name.length + 2) = V := by
    rw [e1]
    show (name ++ 0 :: V).drop (name.length + 1) = V
    rw [List.drop_append]; simp
  rw [ed3] at hd3
  have ex : ((name.length : Int) + 2).toNat = name.length + 2 := by omega
  refine ⟨[(a, .int .u8 y.kind)], hc0, _, i64w (by omega) (by omega), ⟨by omega, by omega, by omega⟩, ⟨by omega, by omega⟩, a, ha, y.kind, List.mem_cons_self, ?_, ?_⟩
  · rw [ex]
    refine (ret138 T y V [] hV _ _ _ w3.drew hg (by rw [List.append_nil]; exact hd3) (by rw [List.append_nil]; omega) (by omega) (by omega)).go fun w5 hk5 => ⟨_, _, _, _, _, rfl, fun w6 hw6 => ?_⟩
    have hk56 : Keeps w5 w6 := by rw [hw6]; exact (Keeps.refl w5).alloc _
    have hd35 : Keeps w3 w5 := (Keeps.refl w3).drew.trans hk5
    obtain ⟨w7, hst7, hk7, hs7, hv7⟩ := store_new (t := 92) (cs := [.int .u8 y.kind, .slice (slAddr p c (name.length + 2) 1) V.length (c - (name.length + 2))]) hw6 n92 rfl rfl rfl
    refine ⟨(hd35.trans hk56).cell hc0, w7, hst7, (fun h => by cases h), fun _ => ⟨_, _, _, _, hv7.lies.row n92, ?_⟩⟩
    have hk17 : Keeps w1 w7 := (hk3.trans hd35).trans hk7
    obtain ⟨w8, hst8, hg8, hs8, hv8⟩ := store_row (ty := 92) (n := 2) (cs := [.int .u8 y.kind, .slice (slAddr p c (name.length + 2) 1) V.length (c - (name.length + 2))]) (hv1.keeps hk17) n92 rfl rfl rfl
    have hk8' : Keeps w w8 := Below.grown (hk1.trans hk17) hg8 (hk1.trans hk17).size (fun k hk => by cases hk; exact Nat.le_refl _)
    exact ⟨w8, hst8, _, hv8.lies.row n92, rfl, hk8'⟩
  · intro w11 hw11
    have hk11 : Keeps w3 w11 := by rw [hw11]; exact (Keeps.refl w3).drew.alloc _
    have hv11 : Var w11 w3.drew.heap.size 92 [.int .u8 0, .slice none 0 0] := by rw [hw11]; exact var_alloc w3.drew _ 92
    refine ⟨hk11.cell hc0, ?_⟩
    rw [ex]
    refine (ret138 T y V [] hV _ _ _ w11 hg (by rw [List.append_nil]; exact hd3.keeps hk11) (by rw [List.append_nil]; omega) (by omega) (by omega)).go fun w12 hk12 => ⟨_, _, _, _, _, rfl, ?_⟩
    obtain ⟨w13, hst13, hg13, hs13, hv13⟩ := store_row (ty := 92) (n := 2) (cs := [.int .u8 y.kind, .slice (slAddr p c (name.length + 2) 1) V.length (c - (name.length + 2))]) (hv11.keeps hk12) n92 rfl rfl rfl
    have hk13 : Keeps w3 w13 := Below.grown (hk11.trans hk12) hg13 (hk11.trans hk12).size (fun k hk => by cases hk; exact Nat.le_refl _)
    refine ⟨w13, hst13, (fun h => by cases h), fun _ => ⟨_, _, _, _, hv13.lies.row n92, ?_⟩⟩
    have hk17 : Keeps w1 w13 := hk3.trans hk13
    obtain ⟨w8, hst8, hg8, hs8, hv8⟩ := store_row (ty := 92) (n := 2) (cs := [.int .u8 y.kind, .slice (slAddr p c (name.length + 2) 1) V.length (c - (name.length + 2))]) (hv1.keeps hk17) n92 rfl rfl rfl
    have hk8' : Keeps w w8 := Below.grown (hk1.trans hk17) hg8 (hk1.trans hk17).size (fun k hk => by cases hk; exact Nat.le_refl _)
    exact ⟨w8, hst8, _, hv8.lies.row n92, rfl, hk8'⟩
theorem ret145 (T : Val → List UInt8) (name : List UInt8) (y : Val) (V : List UInt8) (hV : bytesT T y = V) (p : Option Addr) (n c : Nat) (w : World) (hg : GoodB T y) (hname : (0 : UInt8) ∉ name)
    (hk8 : ((b8 y.kind).toNat : Int) = y.kind) (hr : ReadsB w p (elemV name y V)) (hn : n = (elemV name y V).length) (hc : n ≤ c) (hlim : n ≤ 2000000000) :
    Ret 145 [.slice p n c] w (.agg ⟨[.int .u8 y.kind, .slice (slAddr p c (name.length + 2) 1) V.length (c - (name.length + 2))]⟩) := by
  refine Ret.of (c145 p n c w _ ?_)
  unfold VC145
  intro w1 hw1
  have hk1 : Keeps w w1 := by rw [hw1]; exact (Keeps.refl w).alloc _
  have hv1 : Var w1 w.heap.size 92 [.int .u8 0, .slice none 0 0] := by rw [hw1]; exact var_alloc w _ 92
  refine (ret206 T name y V hV p n c w1 hg hname hk8 (hr.keeps hk1) hn hc hlim).go fun w2 hk2 => ⟨_, rfl, fun w3 hw3 => ?_⟩
  obtain ⟨w4, hst4, hk4, hs4, hv4⟩ := store_new (t := 92) (cs := [.int .u8 y.kind, .slice (slAddr p c (name.length + 2) 1) V.length (c - (name.length + 2))]) hw3 n92 rfl rfl rfl
  refine ⟨w4, hst4, _, _, _, _, hv4.lies.row n92, ?_⟩
  have hk14 : Keeps w1 w4 := hk2.trans hk4
  obtain ⟨w8, hst8, hg8, hs8, hv8⟩ := store_row (ty := 92) (n := 2) (cs := [.int .u8 y.kind, .slice (slAddr p c (name.length + 2) 1) V.length (c - (name.length + 2))]) (hv1.keeps hk14) n92 rfl rfl rfl
  have hk8' : Keeps w w8 := Below.grown (hk1.trans hk14) hg8 (hk1.trans hk14).size (fun k hk => by cases hk; exact Nat.le_refl _)
  exact ⟨w8, hst8, _, hv8.lies.row n92, rfl, hk8'⟩
end Go.Proofs.Tryz
set_option linter.unusedVariables false
set_option maxRecDepth 100000
namespace Go.Proofs.Tryz
open Go.Vc
def VC74 (b : Addr) (c : Int) (w : World) (R : RR) : Prop :=
 Calls prog 134 ⟨[.pointer (some b)]⟩ w fun e w1 => e = .returned (.tuple ⟨[]⟩) ∧
 ∃ (x11 : Ptr) (aa ab : Nat), w1.cell? (b.add 1) = some (.slice x11 aa ab) ∧
 ∀ w2, w2 = w1.alloc (.cells ⟨[.int .u8 c]⟩ 5) →
 ∃ (x14 : Ptr) (ac ad : Nat), ∃ w3, BuiltinOk prog .append #[23, 23] 23 [false, false] [.slice x11 aa ab, .slice (some (⟨w1.heap.size, 0, none⟩)) 1 1] w2 (.slice x14 ac ad) w3 ∧
 CanStore w3 (b.add 1) (.slice x14 ac ad) ∧ ∀ w4, w4 = w3.setCell (b.add 1) (.slice x14 ac ad) →
 R .nilIface w4
def an74 : Ann :=
 .k .z
 (.k (.t [.q, .s []])
 (.k (.t [.q, .q, .q, .q, .s [.slice], .q, .q, .s [.slice]])
 .zl))
theorem c74 (b : Addr) (c : Int) (w : World) (R : RR) (hvc : VC74 b c w R) : CR 74 [.pointer (some b), .int .u8 c] w R :=
 vcc (fn := f74) (ann := an74) hvc (by kernel_rfl) (by kernel_rfl)
def VC78 (b : Addr) (s : Bs) (w : World) (R : RR) : Prop :=
 Calls prog 134 ⟨[.pointer (some b)]⟩ w fun e w1 => e = .returned (.tuple ⟨[]⟩) ∧
 ∃ (x12 : Ptr) (aa ab : Nat), w1.cell? (b.add 1) = some (.slice x12 aa ab) ∧
 ∃ (x14 : Ptr) (ac ad : Nat), ∃ w2, BuiltinOk prog .append #[23, 9] 23 [false, false] [.slice x12 aa ab, .string (mkS s)] w1 (.slice x14 ac ad) w2 ∧
 CanStore w2 (b.add 1) (.slice x14 ac ad) ∧ ∀ w3, w3 = w2.setCell (b.add 1) (.slice x14 ac ad) →
 R (.tuple ⟨[.int .i64 (s.length : Int), .nilIface]⟩) w3
def an78 : Ann :=
 .k .z
 (.k (.t [.q, .s []])
 (.k (.t [.q, .q, .q, .q, .s [.slice], .q, .s [.slice]])
 .zl))
theorem c78 (b : Addr) (s : Bs) (w : World) (R : RR) (hvc : VC78 b s w R) : CR 78 [.pointer (some b), .string (mkS s)] w R :=
 vcc (fn := f78) (ann := an78) hvc (by kernel_rfl) (by kernel_rfl)
def VC137 (b : Addr) (p : Ptr) (p_n p_c : Nat) (w : World) (R : RR) : Prop :=
 Calls prog 134 ⟨[.pointer (some b)]⟩ w fun e w1 => e = .returned (.tuple ⟨[]⟩) ∧
 ∃ (x12 : Ptr) (aa ab : Nat), w1.cell? (b.add 1) = some (.slice x12 aa ab) ∧
 ∃ (x14 : Ptr) (ac ad : Nat), ∃ w2, BuiltinOk prog .append #[23, 23] 23 [false, false] [.slice x12 aa ab, .slice p p_n p_c] w1 (.slice x14 ac ad) w2 ∧
 CanStore w2 (b.add 1) (.slice x14 ac ad) ∧ ∀ w3, w3 = w2.setCell (b.add 1) (.slice x14 ac ad) →
 R (.tuple ⟨[.int .i64 (p_n : Int), .nilIface]⟩) w3
def an137 : Ann :=
 .k .z
 (.k (.t [.q, .s []])
 (.k (.t [.q, .q, .q, .q, .s [.slice], .q, .s [.slice]])
 .zl))
theorem c137 (b : Addr) (p : Ptr) (p_n p_c : Nat) (w : World) (R : RR) (hvc : VC137 b p p_n p_c w R) : CR 137 [.pointer (some b), .slice p p_n p_c] w R :=
 vcc (fn := f137) (ann := an137) hvc (by kernel_rfl) (by kernel_rfl)
def VC134 (b : Addr) (w : World) (R : RR) : Prop :=
 ∃ x5 : Ptr, w.cell? b = some (.pointer x5) ∧
 (x5.isNone = true →
 ∃ x9 : Ptr, ∃ w1, (convert 126 268 (.pointer (some b))).run prog w = .ok (.pointer x9) w1 ∧
 ∃ x10 : Ptr, ∃ w2, (callFunc 198 ⟨[.pointer x9]⟩).run prog w1 = .ok (.value (.pointer x10)) w2 ∧
 ∃ x11 : Ptr, ∃ w3, (convert 268 126 (.pointer x10)).run prog w2 = .ok (.pointer x11) w3 ∧
 CanStore w3 b (.pointer x11) ∧ ∀ w4, w4 = w3.setCell b (.pointer x11) →
 R (.tuple ⟨[]⟩) w4) ∧ (x5.isNone = false →
 ∃ x17 : Ptr, w.cell? b = some (.pointer x17) ∧
 ∃ x19 : Bool, ∃ w5, ((do eqGuard .neq 126 (.tmp 17) (.tmp 18) (.pointer x17) (.pointer (some b)); binOp .neq 126 (.pointer x17) (.pointer (some b)) : Sem Value)).run prog w = .ok (.bool x19) w5 ∧
 (x19 = true →
 False) ∧ (x19 = false →
 R (.tuple ⟨[]⟩) w5))
def an134 : Ann :=
 .k (.t [.q, .q, .q, .s [.ptr]])
 (.cond 1 2 (.t [.q, .q, .s [.ptr], .s [.ptr], .s [.ptr]]) (.k (.t [.q, .q, .q, .s [.ptr], .q, .s [.bool]])
 (.cond 3 4 .l .l)))
theorem c134 (b : Addr) (w : World) (R : RR) (hvc : VC134 b w R) : CR 134 [.pointer (some b)] w R :=
 vcc (fn := f134) (ann := an134) hvc (by kernel_rfl) (by kernel_rfl)
end Go.Proofs.Tryz
set_option linter.unusedVariables false
namespace Go.Proofs.Tryz
open Go.Vc Go.RowKit
theorem u126 : prog.underlying 126 = some (.pointer 128) := by kernel_rfl
theorem u268 : prog.underlying 268 = some .unsafePointer := by kernel_rfl
theorem size128 : (prog.info? 128).map (·.size) = some 2 := by kernel_rfl
theorem lies128 : liesAt prog prog.depth 128 (2 / prog.cellsOf 128) 0 128 1 = true := by kernel_rfl
theorem conv126 (b : Nat) (w : World) (h : w.shape? b = some (128, 2)) : (convert 126 268 (.pointer (some ⟨b, 0, none⟩))).run prog w = .ok (.pointer (some ⟨b, 0, none⟩)) w := by
  obtain ⟨j, hj, hjs⟩ := Option.map_eq_some_iff.1 size128
  exact Lib.run_to_unsafe w ⟨b, 0, none⟩ u126 u268 hj (by rw [hjs]; decide) h (Nat.zero_lt_succ 1)
theorem conv268 (b : Nat) (w : World) (h : w.shape? b = some (128, 2)) : (convert 268 126 (.pointer (some ⟨b, 0, none⟩))).run prog w = .ok (.pointer (some ⟨b, 0, none⟩)) w := by
  obtain ⟨j, hj, hjs⟩ := Option.map_eq_some_iff.1 size128
  exact Lib.run_from_unsafe w ⟨b, 0, none⟩ u268 u126 hj h lies128
theorem call198 (b : Addr) (w : World) : (callFunc 198 ⟨[.pointer (some b)]⟩).run prog w = .ok (.value (.pointer (some b))) w := by
  rw [run_callFunc_extern Tryz.func198 (by kernel_rfl) (by kernel_rfl) (by kernel_rfl) (e := Extern.AbiNoEscape.same) (by kernel_rfl)]
  rw [Lib.run_noEscape]
  rfl
def Bld (b : Nat) (l : List UInt8) (w : World) : Prop := Lib.IsBuilder 128 5 b b (bc l) w
theorem Bld.new (w : World) : Bld w.heap.size [] (w.alloc (.cells ⟨[.pointer none, .slice none 0 0]⟩ 128)) := Lib.fresh_isBuilder 128 5 w
theorem ret134 {b : Nat} {l : List UInt8} {w : World} (h : Bld b l w) : Calls prog 134 ⟨[.pointer (some ⟨b, 0, none⟩)]⟩ w fun e w' => e = .returned (.tuple ⟨[]⟩) ∧ Lib.BuilderAt 128 5 b b (.pointer (some ⟨b, 0, none⟩)) (bc l) w' ∧ Below b w w' := by
  refine calls_q (c134 ⟨b, 0, none⟩ w (fun v w' => v = .tuple ⟨[]⟩ ∧ Lib.BuilderAt 128 5 b b (.pointer (some ⟨b, 0, none⟩)) (bc l) w' ∧ Below b w w') ?_) fun v w' ⟨hv, h⟩ => ⟨by rw [hv], h⟩
  unfold VC134
  rcases h with h | h
  · refine ⟨none, h.cell0, fun _ => ⟨_, w, conv126 b w h.shape, _, w, call198 _ w, _, w, conv268 b w h.shape, ⟨by rw [h.cell0]; rfl, h.frozen0, rfl⟩, fun w4 hw4 => ⟨rfl, by rw [hw4]; exact h.used _, by rw [hw4]; exact (Below.refl b w).setCell (p := ⟨b, 0, none⟩) h.1 _⟩⟩, (fun h => by cases h)⟩
  · refine ⟨_, h.cell0, (fun h => by cases h), fun _ => ⟨_, h.cell0, false, w, ?_, (fun h => by cases h), fun _ => ⟨rfl, h, Below.refl b w⟩⟩⟩
    obtain ⟨j, hj, _⟩ := Option.map_eq_some_iff.1 size128
    rw [eqGuard_at_pointer]
    exact Lib.run_neq_ptr_same w _ u126 hj
theorem Bld.lt {b : Nat} {l : List UInt8} {w : World} (h : Bld b l w) : b < w.heap.size := by
  rcases h with h | h <;> exact h.lt
theorem bld_row {b : Nat} {l : List UInt8} {w : World} {q : Value} (h : Lib.BuilderAt 128 5 b b q (bc l) w) : ∃ p n c, Var w b 128 [q, .slice p n c] ∧ Own b w p n c l := by
  obtain ⟨_, v, hb, ho, _⟩ := h
  obtain ⟨p, c, hv⟩ := slice_of_owns ho
  rw [hv] at hb ho
  exact ⟨p, _, c, hb, ho, by rw [bc_length]⟩
theorem bld_put {b : Nat} {l : List UInt8} {w w1 w2 : World} {q : Value} {p p' : Option Addr} {n c n' c' : Nat} (hv : Var w1 b 128 [q, .slice p n c]) (ho : Own b w2 p' n' c' l) (hg : Gr b w1 w2) (hk : Below b w w1) (hq : q = .pointer (some ⟨b, 0, none⟩)) :
    CanStore w2 ((⟨b, 0, none⟩ : Addr).add 1) (.slice p' n' c') ∧ ∀ w3, w3 = w2.setCell ((⟨b, 0, none⟩ : Addr).add 1) (.slice p' n' c') → Bld b l w3 ∧ Below b w w3 := by
  have hv2 : Var w2 b 128 [q, .slice p n c] := hg.tagd _ _ _ (by decide) hv
  have e1 : (⟨b, 0, none⟩ : Addr).add 1 = ⟨b, 1, none⟩ := by rw [add_at]
  rw [e1]
  refine ⟨hv2.can (by simp) rfl, fun w3 hw3 => ⟨?_, ?_⟩⟩
  · rw [hw3]
    right
    rw [← hq]
    have ho1 := ho.1
    rw [ho.2, ← bc_length] at ho1
    have hn : n' = (bc l).length := by rw [bc_length]; exact ho.2
    rw [hn]
    exact Lib.BuilderAt.put (Nat.le_refl _) hv2 ho1 (by decide)
  · rw [hw3]
    exact (Below.trans hk hg.below).setCell (p := ⟨b, 1, none⟩) (Nat.le_refl _) _
theorem Bld.byte {b : Nat} {l : List UInt8} {w : World} (h : Bld b l w) (x : UInt8) (hl : l.length ≤ 1000000000000) :
    Calls prog 74 ⟨[.pointer (some ⟨b, 0, none⟩), .int .u8 (x.toNat : Int)]⟩ w fun e w' => e = .returned .nilIface ∧ Bld b (l ++ [x]) w' ∧ Below b w w' := by
  refine calls_q (c74 ⟨b, 0, none⟩ _ w (fun v w' => v = .nilIface ∧ Bld b (l ++ [x]) w' ∧ Below b w w') ?_) fun v w' ⟨hv, h⟩ => ⟨by rw [hv], h⟩
  unfold VC74
  refine (ret134 h).mono ?_
  rintro e w1 ⟨rfl, hb1, hk1⟩
  obtain ⟨p, n, c, hv1, ho1⟩ := bld_row hb1
  refine ⟨rfl, p, n, c, by rw [add_at]; exact hv1.lies.at 1 rfl rfl, fun w2 hw2 => ?_⟩
  obtain ⟨p', n', c', w3, happ, ho3, hg3⟩ := append_litT (cells := [.int .u8 (x.toNat : Int)]) (bs := [x]) ho1 (Nat.le_of_lt hv1.lt) hw2 rfl rfl (by simp only [List.length_cons, List.length_nil]; omega) [false, false]
  obtain ⟨hcan, hput⟩ := bld_put hv1 ho3 hg3 hk1 rfl
  exact ⟨p', n', c', w3, happ, hcan, fun w4 hw4 => ⟨rfl, hput w4 hw4⟩⟩
theorem Bld.str {b : Nat} {l : List UInt8} {w : World} (h : Bld b l w) (s : List UInt8) (hl : l.length + s.length ≤ 1000000000000) :
    Calls prog 78 ⟨[.pointer (some ⟨b, 0, none⟩), .string (mkS s)]⟩ w fun e w' => e = .returned (.tuple ⟨[.int .i64 (s.length : Int), .nilIface]⟩) ∧ Bld b (l ++ s) w' ∧ Below b w w' := by
  refine calls_q (c78 ⟨b, 0, none⟩ _ w (fun v w' => v = .tuple ⟨[.int .i64 (s.length : Int), .nilIface]⟩ ∧ Bld b (l ++ s) w' ∧ Below b w w') ?_) fun v w' ⟨hv, h⟩ => ⟨by rw [hv], h⟩
  unfold VC78
  refine (ret134 h).mono ?_
  rintro e w1 ⟨rfl, hb1, hk1⟩
  obtain ⟨p, n, c, hv1, ho1⟩ := bld_row hb1
  refine ⟨rfl, p, n, c, by rw [add_at]; exact hv1.lies.at 1 rfl rfl, ?_⟩
  obtain ⟨p', n', c', w3, happ, ho3, hg3⟩ := append_strT (l2 := s) ho1 (Nat.le_of_lt hv1.lt) (by omega) [false, false]
  obtain ⟨hcan, hput⟩ := bld_put hv1 ho3 hg3 hk1 rfl
  exact ⟨p', n', c', w3, happ, hcan, fun w4 hw4 => ⟨rfl, hput w4 hw4⟩⟩
theorem Bld.write {b : Nat} {l : List UInt8} {w : World} (h : Bld b l w) (s : List UInt8) (q : Option Addr) (m k : Nat) (hrb : ∀ w', Below b w w' → ReadsB w' q s) (hm : m = s.length) (hnil : q = none → k = 0) (hl : l.length + s.length ≤ 1000000000000) :
    Calls prog 137 ⟨[.pointer (some ⟨b, 0, none⟩), .slice q m k]⟩ w fun e w' => e = .returned (.tuple ⟨[.int .i64 (m : Int), .nilIface]⟩) ∧ Bld b (l ++ s) w' ∧ Below b w w' := by
  refine calls_q (c137 ⟨b, 0, none⟩ _ _ _ w (fun v w' => v = .tuple ⟨[.int .i64 (m : Int), .nilIface]⟩ ∧ Bld b (l ++ s) w' ∧ Below b w w') ?_) fun v w' ⟨hv, h⟩ => ⟨by rw [hv], h⟩
  unfold VC137
  refine (ret134 h).mono ?_
  rintro e w1 ⟨rfl, hb1, hk1⟩
  obtain ⟨p, n, c, hv1, ho1⟩ := bld_row hb1
  refine ⟨rfl, p, n, c, by rw [add_at]; exact hv1.lies.at 1 rfl rfl, ?_⟩
  obtain ⟨p', n', c', w3, happ, ho3, hg3⟩ := append_bytesT (l2 := s) ho1 (hrb w1 hk1) hm hnil (Nat.le_of_lt hv1.lt) (by omega) [false, false]
  obtain ⟨hcan, hput⟩ := bld_put hv1 ho3 hg3 hk1 rfl
  exact ⟨p', n', c', w3, happ, hcan, fun w4 hw4 => ⟨rfl, hput w4 hw4⟩⟩
theorem Bld.len {b : Nat} {l : List UInt8} {w : World} (h : Bld b l w) : Calls prog 75 ⟨[.pointer (some ⟨b, 0, none⟩)]⟩ w fun e w' => e = .returned (.int .i64 (l.length : Int)) ∧ w' = w := by
  have := Builder_Len b b (bc l) w h
  rw [bc_length] at this
  exact this
theorem Bld.out {b : Nat} {l : List UInt8} {w : World} (h : Bld b l w) : Calls prog 79 ⟨[.pointer (some ⟨b, 0, none⟩)]⟩ w fun e w' => e = .returned (.string (mkS l)) ∧ Below b w w' :=
  Builder_String_any b b l w h (Nat.le_of_lt h.lt)
end Go.Proofs.Tryz
