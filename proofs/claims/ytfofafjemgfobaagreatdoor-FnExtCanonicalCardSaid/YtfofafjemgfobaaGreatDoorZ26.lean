/- Parts of a proof, joined: W12, W13, W14, W15, A18, W16, W17. -/
import Derived.Test.YtfofafjemgfobaaGreatDoorZ25
import Derived.Test.YtfofafjemgfobaaGreatDoorZ12
import Derived.Test.YtfofafjemgfobaaGreatDoorZ21
/- The writer's methods: numbers in decimal, binary data; documents and arrays. -/
set_option linter.unusedVariables false
namespace Go.Proofs.Tryz
open Go.Vc Go.RowKit Go.Sort

theorem ret237 (h l : Nat) (hh : h < 18446744073709551616) (hl : l < 18446744073709551616) (hok : DecOK (h : Int) (l : Int)) (w : World) (T : Tabs w) :
    Ret 237 [.agg ⟨[.int .u64 (h : Int), .int .u64 (l : Int)]⟩] w (.string (mkS (decTextF (decOf h l)))) := by
  refine Ret.of (c237 _ _ w _ ?_)
  unfold VC237
  intro w1 hw1
  have hk1 : Keeps w w1 := by rw [hw1]; exact (Keeps.refl w).alloc _
  have hv1 : Var w1 w.heap.size 263 [.int .u64 (h : Int), .int .u64 (l : Int)] := by rw [hw1]; exact var_alloc w _ 263
  exact ⟨_, hv1.lies.at 0 rfl rfl, _, hv1.lies.at 1 rfl rfl, (ret107 h l hh hl hok w1 (T.keeps hk1)).go fun w2 hk2 => ⟨_, rfl, rfl, hk1.trans hk2⟩⟩
section
variable {w0 w : World} {a : Nat} {wx : Addr} {can esc : Bool} {buf : List UInt8} {t : Int} {ms : List Int}
theorem ret194 (h : At w0 w a wx can esc buf t ms) (T : Tabs w0) (hi lo : Nat) (h1 : hi < 18446744073709551616) (h2 : lo < 18446744073709551616) (hok : DecOK (hi : Int) (lo : Int)) (hlen : (decTextF (decOf hi lo)).length ≤ 20000) :
    Put 194 [.agg ⟨[.int .u64 (hi : Int), .int .u64 (lo : Int)]⟩] w0 w a wx can esc buf ms (wrapF [36, 110, 117, 109, 98, 101, 114, 68, 101, 99, 105, 109, 97, 108] ([34] ++ decTextF (decOf hi lo) ++ [34])) := by
  have hl := h.len
  refine Wrote.of (c194 _ _ _ w _ ?_)
  unfold VC194
  intro w1 hw1
  have hk1 : Keeps w w1 := by rw [hw1]; exact (Keeps.refl w).alloc _
  have hv1 : Var w1 w.heap.size 263 [.int .u64 (hi : Int), .int .u64 (lo : Int)] := by rw [hw1]; exact var_alloc w _ 263
  refine (h.keeps hk1).chk _ _ _ _ _ fun w2 hk2 ha2 => ⟨rfl, _, _, (hv1.keeps hk2).lies.row n263, ?_⟩
  refine (ret237 hi lo h1 h2 hok w2 (T.keeps ha2.keep)).go fun w3 hk3 => ⟨_, rfl, ?_⟩
  have ha3 := ha2.keeps hk3
  refine (ret232 ha3.wr (by omega) _ _ _ (by decide) (by omega)).go fun w4 hf4 hw4 => ⟨rfl, ?_⟩
  refine fin_comma h ((((hk1.trans hk2).trans hk3).fr h.size).trans hf4) hw4 (by simp [wrapF]; omega) fun w'' hf hw => ⟨rfl, hf, ?_⟩
  simpa using hw
theorem ret180 (h : At w0 w a wx can esc buf t ms) (sp : Option Addr) (sc : Nat) (l : List UInt8) (b : Nat) (hb : b < 256) (hr : ReadsB w0 sp l) (hsc : l.length ≤ sc) (hll : l.length ≤ 300) : Put 180 [.slice sp l.length sc, .int .u8 (b : Int)] w0 w a wx can esc buf ms
    (wrapF [36, 98, 105, 110, 97, 114, 121] ([123, 34, 98, 97, 115, 101, 54, 52, 34, 58, 34] ++ b64F l ++ [34, 44, 34, 115, 117, 98, 84, 121, 112, 101, 34, 58, 34] ++ hex2 b ++ [34, 125])) := by
  have hl := h.len
  have h64 := b64F_len _ l (Nat.le_refl _)
  have hh2 := hex2_len b
  refine Wrote.of (c180 _ sp l.length sc _ w _ ?_)
  unfold VC180
  refine h.chk _ _ _ _ _ fun w1 hk1 h1 => ⟨rfl, fun w2 hw2 => ?_⟩
  obtain ⟨hk2, hb2⟩ := new_buf hw2
  refine buf_str hk2 hb2 (Nat.le_refl _) _ (by simp) fun w3 n3 hk3 hb3 => ⟨n3, rfl, ?_⟩
  refine (ret233 sp sc l w3 (hr.keeps (h1.keep.trans hk3)) hsc (by omega)).go fun w4 hk4 => ⟨_, rfl, ?_⟩
  refine buf_str (hk3.trans hk4) (hb3.keeps hk4) (Nat.le_refl _) _ (by simp; omega) fun w5 n5 hk5 hb5 => ⟨n5, rfl, ?_⟩
  refine (ret234 b hb w5).go fun w6 hk6 => ⟨_, rfl, by simp; omega, by simp; omega, ?_⟩
  refine buf_str (hk5.trans hk6) (hb5.keeps hk6) (Nat.le_refl _) _ (by simp; omega) fun w7 n7 hk7 hb7 => ⟨n7, rfl, ?_⟩
  have h7 := h1.keeps hk7
  refine put_buf h7.wr (by omega) hb7 (by simp; omega) _ fun w12 hf12 hw12 => ?_
  refine fin_pop h (((hk1.trans hk7).fr h.size).trans hf12) hw12 fun w'' hf hw => ⟨rfl, hf, ?_⟩
  simpa [wrapF, List.append_assoc] using hw
/-- An array begins. -/
theorem ret126 (h : At w0 w a wx can esc buf t ms) : Wrote 126 [.pointer (some ⟨a, 0, none⟩)] w0.heap.size w a wx can esc (buf ++ [91]) (3 :: t :: ms) (.tuple ⟨[.iface 70 (.pointer (some ⟨a, 0, none⟩)), .nilIface]⟩) := by
  have hl := h.len
  have hd := h.deep
  refine Wrote.of (c126 _ w _ ?_)
  unfold VC126
  refine h.chk _ _ _ _ _ fun w1 hk1 h1 => ⟨rfl, ?_⟩
  refine put_lit h1.wr (by omega) [91] rfl rfl (by decide) _ fun w4 hf4 hw4 => ?_
  refine (ret69 hw4 (by simp; omega) 3).mono ?_
  rintro e w5 ⟨rfl, hf5, hw5⟩
  exact ⟨rfl, rfl, ((hk1.fr h.size).trans hf4).trans hf5, hw5⟩
/-- A document begins. -/
theorem ret40 (h : At w0 w a wx can esc buf t ms) : Wrote 40 [.pointer (some ⟨a, 0, none⟩)] w0.heap.size w a wx can esc (buf ++ [123]) (2 :: t :: ms) (.tuple ⟨[.iface 70 (.pointer (some ⟨a, 0, none⟩)), .nilIface]⟩) := by
  have hl := h.len
  have hd := h.deep
  refine Wrote.of (c40 _ w _ ?_)
  unfold VC40
  have hkd : Keeps w w.drew := (Keeps.refl w).drew
  obtain ⟨fr, bp, bn, bc', sg, sn, sc, cs, hp, hf⟩ := (h.keeps hkd).wr
  have hroom := hp.room
  refine ⟨_, _, _, hp.c2, _, hp.c3, ⟨by omega, by omega⟩, _, rfl, t, hp.top_mode hf, fun h1 => ?_, fun _ w4 hw4 => ?_⟩
  · have := of_decide_eq_true h1
    rcases h.val with e | e <;> omega
  have hk4 : Keeps w w4 := by rw [hw4]; exact hkd.alloc _
  refine (h.keeps hk4).chk _ _ _ _ _ fun w5 hk5 h5 => ⟨rfl, ?_⟩
  refine put_lit h5.wr (by omega) [123] rfl rfl (by decide) _ fun w8 hf8 hw8 => ?_
  refine (ret69 hw8 (by simp; omega) 2).mono ?_
  rintro e w9 ⟨rfl, hf9, hw9⟩
  exact ⟨rfl, rfl, (((hk4.trans hk5).fr h.size).trans hf8).trans hf9, hw9⟩
end
/-- The document at the top begins. -/
theorem ret40t {B : Nat} {w : World} {a : Nat} {wx : Addr} {can esc : Bool} {buf : List UInt8} {ms : List Int} (h : WR B w a wx can esc buf (1 :: ms)) (hl : buf.length ≤ 1000000000) :
    Wrote 40 [.pointer (some ⟨a, 0, none⟩)] B w a wx can esc (buf ++ [123]) (1 :: ms) (.tuple ⟨[.iface 70 (.pointer (some ⟨a, 0, none⟩)), .nilIface]⟩) := by
  refine Wrote.of (c40 _ w _ ?_)
  unfold VC40
  have hkd : Keeps w w.drew := (Keeps.refl w).drew
  have h' := h.keeps hkd
  obtain ⟨fr, bp, bn, bc', sg, sn, sc, cs, hp, hf⟩ := h.keeps hkd
  have hroom := hp.room
  refine ⟨_, _, _, hp.c2, _, hp.c3, ⟨by omega, by omega⟩, _, rfl, 1, hp.top_mode hf, fun h1 => ?_, fun h1 => absurd h1 (by decide)⟩
  exact put_lit h' (by omega) [123] rfl rfl (by decide) _ fun w4 hf4 hw4 => ⟨rfl, (hkd.fr h.size).trans hf4, hw4⟩
/-- An array's next element. -/
theorem ret127 {B : Nat} {w : World} {a : Nat} {wx : Addr} {can esc : Bool} {buf : List UInt8} {ms : List Int} (h : WR B w a wx can esc buf (3 :: ms)) (hd : ms.length ≤ 900) :
    Wrote 127 [.pointer (some ⟨a, 0, none⟩)] B w a wx can esc buf (4 :: 3 :: ms) (.tuple ⟨[.iface 70 (.pointer (some ⟨a, 0, none⟩)), .nilIface]⟩) := by
  refine Wrote.of (c127 _ w _ ?_)
  unfold VC127
  have hkd : Keeps w w.drew := (Keeps.refl w).drew
  have h' := h.keeps hkd
  obtain ⟨fr, bp, bn, bc', sg, sn, sc, cs, hp, hf⟩ := h.keeps hkd
  have hroom := hp.room
  refine ⟨_, _, _, hp.c2, _, hp.c3, ⟨by omega, by omega⟩, _, rfl, 3, hp.top_mode hf, fun _ => ?_, fun h1 => absurd h1 (by decide)⟩
  refine (ret69 h' (by simp; omega) 4).mono ?_
  rintro e w1 ⟨rfl, hf1, hw1⟩
  exact ⟨rfl, rfl, (hkd.fr h.size).trans hf1, hw1⟩
/-- A document's next element: its name. -/
theorem ret70 {w0 w : World} {a : Nat} {wx : Addr} {can esc : Bool} {buf : List UInt8} {t : Int} {ms : List Int} (h : WR w0.heap.size w a wx can esc buf (t :: ms)) (hk : Keeps w0 w) (T : Tabs w0) (E : Esc w0) (ht : t = 2 ∨ t = 1 ∨ t = 6) (hd : ms.length ≤ 900) (hl : buf.length ≤ 1000000000)
    (s : List UInt8) (hu : utf8F s = true) (hs : s.length ≤ 300) :
    Wrote 70 [.pointer (some ⟨a, 0, none⟩), .string (mkS s)] w0.heap.size w a wx can esc (buf ++ (strF esc s ++ [58])) (5 :: t :: ms) (.tuple ⟨[.iface 70 (.pointer (some ⟨a, 0, none⟩)), .nilIface]⟩) := by
  have hsl := strF_len esc s
  refine Wrote.of (c70 _ _ w _ ?_)
  unfold VC70
  have hkd : Keeps w w.drew := (Keeps.refl w).drew
  have h' := h.keeps hkd
  obtain ⟨fr, bp, bn, bc', sg, sn, sc, cs, hp, hf⟩ := h'
  have hroom := hp.room
  refine ⟨_, _, _, hp.c2, _, hp.c3, ⟨by omega, by omega⟩, _, rfl, t, hp.top_mode hf, ?_⟩
  intro Kx hK
  have key : ∀ b : Bool, b = true → Kx b w.drew := by
    intro b hb
    refine hK b w.drew ⟨fun _ w2 hw2 => ?_, fun h => by rw [hb] at h; cases h⟩
    obtain ⟨hk2, hb2⟩ := new_buf hw2
    have h15 := T.size
    have hsz := h.size
    have hp2 := hp.keeps hk2
    refine ⟨esc, hp2.c5, (ret125 s w.drew.heap.size esc [] w2 hu (by omega) (by simp) hb2 (E.keeps ((hk.trans hkd).trans hk2)) (by show 11 < w.heap.size; omega)).mono ?_⟩
    rintro e w3 ⟨rfl, hb3, hk3⟩
    have hk13 : Keeps w.drew w3 := Below.trans hk2 hk3
    have hp3 := hp.keeps hk13
    have kept : ∀ w', Keeps w3 w' → Kept w' [(((⟨a, 0, none⟩ : Addr).add 1), .slice bp bn bc')] := fun w' k => (hp3.keeps k).c1
    refine ⟨rfl, _, kept w3 (Keeps.refl _), _, _, _, List.mem_singleton.2 rfl, (hb3.keeps (Keeps.refl w3).drew).out.go fun w4 hk4 => ⟨_, rfl, kept w4 ((Keeps.refl w3).drew.trans hk4), by simp; omega, ?_⟩⟩
    have hk4' := (Keeps.refl w3).drew.trans hk4
    obtain ⟨c, w5, hr5, hc, hk5, _, hrd, _⟩ := conv_bytes w4 ([] ++ strF esc s ++ [58])
    have hk5' := hk4'.trans hk5
    refine ⟨_, _, _, w5, hr5, kept w5 hk5', ?_⟩
    refine put_from (hp3.keeps hk5') hrd rfl (fun e => by cases e) (by omega) (by simp; omega) _ fun w7 bp' bn' bc'' hf7 hp7 => ?_
    refine (ret69 ⟨_, _, _, _, _, _, _, _, hp7, hf⟩ (by simp; omega) 5).mono ?_
    rintro e w8 ⟨rfl, hf8, hw8⟩
    exact ⟨rfl, rfl, (((hkd.trans (hk13.trans hk5')).fr h.size).trans hf7).trans hf8, by simpa using hw8⟩
  rcases ht with rfl | rfl | rfl
  · exact ⟨fun _ => key _ (by decide), fun h => absurd h (by decide)⟩
  · exact ⟨fun h => absurd h (by decide), fun _ => ⟨fun _ => key _ (by decide), fun h => absurd h (by decide)⟩⟩
  · exact ⟨fun h => absurd h (by decide), fun _ => ⟨fun h => absurd h (by decide), fun _ => key _ (by decide)⟩⟩
end Go.Proofs.Tryz
/- The end of an array and of a document. -/
set_option linter.unusedVariables false
namespace Go.Proofs.Tryz
open Go.Vc Go.RowKit

/-- A row of one's own that holds a byte has a block. -/
theorem Own.row {B : Nat} {w : World} {p : Option Addr} {n c : Nat} {l : List UInt8} (h : Own B w p n c l) (hl : 0 < l.length) : ∃ g cs, p = some ⟨g, 0, none⟩ ∧ B ≤ g ∧ Var w g 5 cs ∧ l.length ≤ cs.length := by
  rcases h.1.2 with ⟨hv, hn⟩ | ⟨g, cap, cur, hv, hb, hg, hnc, hcm, hcs, htake⟩
  · have := h.2; omega
  · cases hv
    have := h.2
    refine ⟨g, cur.toList, rfl, hb, hg, ?_⟩
    have e1 : n = l.length := h.2
    have e2 : cur.size = c := by rw [hcs, Nat.mul_one]
    have e3 : cur.toList.length = cur.size := Array.length_toList
    omega
theorem bc_set (l : List UInt8) (x y : UInt8) : (bc (l ++ [x])).set l.length (.int .u8 (y.toNat : Int)) = bc (l ++ [y]) := by
  simp [bc]
theorem Own.last {B : Nat} {w : World} {g n c : Nat} {l : List UInt8} {x : UInt8} (h : Own B w (some ⟨g, 0, none⟩) n c (l ++ [x])) (y : UInt8) :
    Own B (w.setCell ⟨g, l.length, none⟩ (.int .u8 (y.toNat : Int))) (some ⟨g, 0, none⟩) n c (l ++ [y]) := by
  have := (h.1.stored l.length (.int .u8 (y.toNat : Int))).1
  rw [bc_set] at this
  exact ⟨this, by have := h.2; simpa using this⟩
theorem WRp.set_last {B : Nat} {w : World} {a : Nat} {wx : Addr} {can esc : Bool} {l : List UInt8} {x : UInt8} {ms : List Int} {fr : Nat} {bp : Option Addr} {bn bc sg sn sc : Nat} {cs : List Value}
    (h : WRp B w a wx can esc (l ++ [x]) ms fr bp bn bc sg sn sc cs) (y : UInt8) :
    ∃ g, bp = some ⟨g, 0, none⟩ ∧ CanStore w ⟨g, l.length, none⟩ (.int .u8 (y.toNat : Int)) ∧ ∀ w2, w2 = w.setCell ⟨g, l.length, none⟩ (.int .u8 (y.toNat : Int)) →
      WRp B w2 a wx can esc (l ++ [y]) ms fr bp bn bc sg sn sc cs ∧ Fr B w w2 := by
  obtain ⟨g, cs5, rfl, hb, hv, hl⟩ := h.own.row (by simp)
  simp only [List.length_append, List.length_cons, List.length_nil] at hl
  refine ⟨g, rfl, hv.can (by omega) rfl, fun w2 hw2 => ?_⟩
  subst hw2
  have n1 := var_ne h.row hv (by decide)
  have n2 := var_ne h.stk hv (by decide)
  refine ⟨⟨var_setCell h.row _ _ n1, h.base, h.own.last y, var_setCell h.stk _ _ n2, h.sbase, h.clen, h.room, h.cap, h.top, h.ints, h.mode, h.inb⟩, ⟨(Below.refl B w).setCell (p := ⟨g, l.length, none⟩) hb _, fun g' t' cs' h1 h2 h3 hv' => var_setCell hv' _ _ (var_ne hv' hv h1)⟩⟩

/-- The bytes of a document or an array that ends. -/
def closeB (buf : List UInt8) (c : UInt8) (out : List UInt8) : Prop := (∃ l, buf = l ++ [44] ∧ out = l ++ [c]) ∨ (∃ l b, buf = l ++ [b] ∧ b ≠ 44 ∧ out = buf ++ [c])
theorem put_end {B : Nat} {w : World} {a : Nat} {wx : Addr} {can esc : Bool} {buf out : List UInt8} {ms : List Int} (h : WR B w a wx can esc buf ms) (hl : buf.length ≤ 2000000000) (c : UInt8) {ci : Int} (hci : ci = (c.toNat : Int)) (hc : closeB buf c out)
    (K : World → Prop) (hK : ∀ w', Fr B w w' → WR B w' a wx can esc out ms → K w') :
    ∃ (x20 : Option Addr) (x20_n x20_c : Nat), w.cell? ((⟨a, 0, none⟩ : Addr).add 1) = some (.slice x20 x20_n x20_c) ∧
    ∃ (x24 : Option Addr) (x24_n x24_c : Nat), w.cell? ((⟨a, 0, none⟩ : Addr).add 1) = some (.slice x24 x24_n x24_c) ∧
    ∃ x26 : Int, IntKind.i64.wrap ((x24_n : Int) - 1) = x26 ∧
    ((0 : Int) ≤ x26 ∧ x26 < (x20_n : Int)) ∧ ∃ x20a : Addr, x20 = some x20a ∧
    ∃ x28 : Int, w.cell? (x20a.add (x26.toNat * 1)) = some (.int .u8 x28) ∧
    (decide (x28 = 44) = true →
    ∃ f : List (Addr × Value), Kept w f ∧
      ∃ (x33 : Option Addr) (x33_n x33_c : Nat), (((⟨a, 0, none⟩ : Addr).add 1), .slice x33 x33_n x33_c) ∈ f ∧
      ∃ (x37 : Option Addr) (x37_n x37_c : Nat), (((⟨a, 0, none⟩ : Addr).add 1), .slice x37 x37_n x37_c) ∈ f ∧
      ∃ x39 : Int, IntKind.i64.wrap ((x37_n : Int) - 1) = x39 ∧
      ((0 : Int) ≤ x39 ∧ x39 < (x33_n : Int)) ∧ ∃ x33a : Addr, x33 = some x33a ∧
      CanStore w.drew (x33a.add (x39.toNat * 1)) (.int .u8 ci) ∧ ∀ w6, w6 = w.drew.setCell (x33a.add (x39.toNat * 1)) (.int .u8 ci) →
      K w6) ∧ (decide (x28 = 44) = false →
    ∃ (x45 : Option Addr) (x45_n x45_c : Nat), w.cell? ((⟨a, 0, none⟩ : Addr).add 1) = some (.slice x45 x45_n x45_c) ∧
      ∀ w7, w7 = w.alloc (.cells ⟨[.int .u8 ci]⟩ 5) →
      ∃ (x47 : Option Addr) (x47_n x47_c : Nat), ∃ w8, BuiltinOk prog .append #[23, 23] 23 [false, false] [.slice x45 x45_n x45_c, .slice (some (⟨w.heap.size, 0, none⟩)) 1 1] w7 (.slice x47 x47_n x47_c) w8 ∧
      CanStore w8 ((⟨a, 0, none⟩ : Addr).add 1) (.slice x47 x47_n x47_c) ∧ ∀ w9, w9 = w8.setCell ((⟨a, 0, none⟩ : Addr).add 1) (.slice x47 x47_n x47_c) →
      K w9) := by
  subst hci
  have hwr := h
  obtain ⟨fr, bp, bn, bc', sg, sn, sc, cs, hp, hf⟩ := h
  have hlen : ∃ l b, buf = l ++ [b] := by rcases hc with ⟨l, h1, _⟩ | ⟨l, b, h1, _⟩ <;> exact ⟨_, _, h1⟩
  obtain ⟨l, b, rfl⟩ := hlen
  obtain ⟨g, cs5, hbp, hgb, hv, hvl⟩ := hp.own.row (by simp)
  have hbn : bn = l.length + 1 := by simpa using hp.own.len
  simp only [List.length_append, List.length_cons, List.length_nil] at hl
  have ew : IntKind.i64.wrap ((bn : Int) - 1) = ((l.length : Nat) : Int) := by rw [i64w (by omega) (by omega)]; omega
  have hread : w.cell? ((⟨g, 0, none⟩ : Addr).add (((l.length : Nat) : Int).toNat * 1)) = some (.int .u8 (b.toNat : Int)) := by
    rw [Int.toNat_natCast, Nat.mul_one]
    obtain ⟨x, hx, hcx⟩ := hp.own.reads l.length b (by simp)
    rw [hbp] at hx; cases hx
    exact hcx
  refine ⟨bp, bn, bc', hp.c1, bp, bn, bc', hp.c1, _, ew, ⟨by omega, by omega⟩, ⟨g, 0, none⟩, hbp, _, hread, fun h44 => ?_, fun h44 => ?_⟩
  · have hb44 : b = 44 := by
      have := of_decide_eq_true h44
      apply UInt8.toNat_inj.1
      show b.toNat = 44
      omega
    subst hb44
    have ho : out = l ++ [c] := by
      rcases hc with ⟨l', h1, h2⟩ | ⟨l', b', h1, h2, h3⟩
      · have := List.append_inj_left' h1 rfl
        rw [h2, this]
      · have := List.append_inj_right' h1 rfl
        simp only [List.cons.injEq, and_true] at this
        exact absurd this.symm h2
    subst ho
    have hkd : Keeps w w.drew := (Keeps.refl w).drew
    obtain ⟨g', hg', hcan, hset⟩ := (hp.keeps hkd).set_last c
    rw [hbp] at hg'
    cases hg'
    refine ⟨[(((⟨a, 0, none⟩ : Addr).add 1), .slice bp bn bc')], hp.c1, bp, bn, bc', List.mem_singleton.2 rfl, bp, bn, bc', List.mem_singleton.2 rfl, _, ew, ⟨by omega, by omega⟩, ⟨g, 0, none⟩, hbp, ?_⟩
    rw [Int.toNat_natCast, Nat.mul_one, add_at, Nat.zero_add]
    exact ⟨hcan, fun w6 hw6 => hK w6 ((hkd.fr hp.size).trans (hset w6 hw6).2) ⟨_, _, _, _, _, _, _, _, (hset w6 hw6).1, hf⟩⟩
  · have ho : out = (l ++ [b]) ++ [c] := by
      rcases hc with ⟨l', h1, h2⟩ | ⟨l', b', h1, h2, h3⟩
      · have := List.append_inj_right' h1 rfl
        simp only [List.cons.injEq, and_true] at this
        subst this
        exact absurd rfl (of_decide_eq_false h44)
      · exact h3
    rw [ho] at hK
    exact put_lit hwr (by simp; omega) [c] rfl rfl (by simp) K hK

/-- An array ends. -/
theorem ret128 {B : Nat} {w : World} {a : Nat} {wx : Addr} {can esc : Bool} {buf out : List UInt8} {u : Int} {ms : List Int} (h : WR B w a wx can esc buf (3 :: u :: ms)) (hc : closeB buf 93 out) (hm : 1 ≤ ms.length) (hd : ms.length ≤ 900) (hl : buf.length ≤ 1000000000) :
    Wrote 128 [.pointer (some ⟨a, 0, none⟩)] B w a wx can esc (out ++ [44]) ms .nilIface := by
  have hol : out.length ≤ buf.length + 1 := by rcases hc with ⟨l, h1, h2⟩ | ⟨l, b, h1, _, h2⟩ <;> simp [h1, h2]
  refine Wrote.of (c128 _ w _ ?_)
  unfold VC128
  have hkd : Keeps w w.drew := (Keeps.refl w).drew
  have h2 := (h.keeps hkd).keeps (Keeps.refl w.drew).drew
  obtain ⟨fr, bp, bn, bc', sg, sn, sc, cs, hp, hf⟩ := h.keeps hkd
  have hroom := hp.room
  refine ⟨_, _, _, hp.c2, _, hp.c3, ⟨by omega, by omega⟩, _, rfl, 3, hp.top_mode hf, fun _ => ?_, fun h1 => absurd h1 (by decide)⟩
  intro Kx hK
  refine put_end h2 (by omega) 93 rfl hc Kx fun w1 hf1 hw1 => hK w1 ?_
  refine put_lit hw1 (by omega) [44] rfl rfl (by decide) _ fun w4 hf4 hw4 => ?_
  refine (ret132b hw4 (by decide) hm (by omega)).mono ?_
  rintro e w5 ⟨rfl, hf5, hw5⟩
  exact ⟨rfl, rfl, ((((hkd.trans (Keeps.refl w.drew).drew).fr h.size).trans hf1).trans hf4).trans hf5, hw5⟩

/-- What ends every document: the brace. -/
theorem start72 {B : Nat} {w : World} {a : Nat} {wx : Addr} {can esc : Bool} {buf out : List UInt8} {t : Int} {ms : List Int} (h : WR B w a wx can esc buf (t :: ms)) (ht : t = 2 ∨ t = 1 ∨ t = 6) (hc : closeB buf 125 out) (hl : buf.length ≤ 1000000000)
    (R : Value → World → Prop)
    (hK : ∀ w2, Fr B w w2 → WR B w2 a wx can esc out (t :: ms) →
      (∃ (x57 : Option Addr) (x57_n x57_c : Nat), w2.drew.cell? ((⟨a, 0, none⟩ : Addr).add 2) = some (.slice x57 x57_n x57_c) ∧ 
      ∃ x61 : Int, w2.drew.cell? ((⟨a, 0, none⟩ : Addr).add 3) = some (.int .i64 x61) ∧ 
      ((0 : Int) ≤ x61 ∧ x61 < (x57_n : Int)) ∧ ∃ x57a : Addr, x57 = some x57a ∧ 
      ∃ x64 : Int, w2.drew.cell? (x57a.add (x61.toNat * 1)) = some (.int .i64 x64) ∧ 
      ∀ Kx_2 : World → Prop, (∀ w3,
      (∃ (x84 : Option Addr) (x84_n x84_c : Nat), w3.cell? ((⟨a, 0, none⟩ : Addr).add 1) = some (.slice x84 x84_n x84_c) ∧ 
        ∀ w4, w4 = w3.alloc (.cells ⟨[.int .u8 44]⟩ 5) → 
        ∃ (x86 : Option Addr) (x86_n x86_c : Nat), ∃ w5, BuiltinOk prog .append #[23, 23] 23 [false, false] [.slice x84 x84_n x84_c, .slice (some (⟨w3.heap.size, 0, none⟩)) 1 1] w4 (.slice x86 x86_n x86_c) w5 ∧ 
        CanStore w5 ((⟨a, 0, none⟩ : Addr).add 1) (.slice x86 x86_n x86_c) ∧ ∀ w6, w6 = w5.setCell ((⟨a, 0, none⟩ : Addr).add 1) (.slice x86 x86_n x86_c) → 
        Calls prog 132 ⟨[.pointer (some (⟨a, 0, none⟩ : Addr))]⟩ w6 fun e w7 => e = .returned (.tuple ⟨[]⟩) ∧ 
        R .nilIface w7) → Kx_2 w3) →
      (decide (x64 = 6) = true →
      ∃ (x75 : Option Addr) (x75_n x75_c : Nat), w2.drew.cell? ((⟨a, 0, none⟩ : Addr).add 1) = some (.slice x75 x75_n x75_c) ∧ 
        ∀ w8, w8 = w2.drew.alloc (.cells ⟨[.int .u8 125]⟩ 5) → 
        ∃ (x77 : Option Addr) (x77_n x77_c : Nat), ∃ w9, BuiltinOk prog .append #[23, 23] 23 [false, false] [.slice x75 x75_n x75_c, .slice (some (⟨w2.drew.heap.size, 0, none⟩)) 1 1] w8 (.slice x77 x77_n x77_c) w9 ∧ 
        CanStore w9 ((⟨a, 0, none⟩ : Addr).add 1) (.slice x77 x77_n x77_c) ∧ ∀ w10, w10 = w9.setCell ((⟨a, 0, none⟩ : Addr).add 1) (.slice x77 x77_n x77_c) → 
        Kx_2 w10) ∧ (decide (x64 = 6) = false →
      (decide (x64 = 2) = true →
        Kx_2 w2.drew) ∧ (decide (x64 = 2) = false →
        (decide (x64 = 1) = true →
          ∀ Kx_3 : World → Prop, (∀ w11,
            (∃ x105 : Value, w11.cell? (⟨a, 0, none⟩ : Addr) = some x105 ∧ 
              ∃ x106 : Bool, ∃ w12, ((do eqGuard .neq 108 (.tmp 105) (.const .nilIface) x105 .nilIface; binOp .neq 108 x105 .nilIface : Sem Value)).run prog w11 = .ok (.bool x106) w12 ∧ 
              (x106 = true →
              ∃ f : List (Addr × Value), Kept w12 f ∧
                ∃ x111 : Addr, ((⟨a, 0, none⟩ : Addr), .iface 72 (.pointer (some x111))) ∈ f ∧ 
                ∃ (x115 : Option Addr) (x115_n x115_c : Nat), (((⟨a, 0, none⟩ : Addr).add 1), .slice x115 x115_n x115_c) ∈ f ∧ 
                ∃ (g : Nat) (av : Array Value), (callMethod (.iface 72 (.pointer (some x111))) "Write" ⟨[.slice x115 x115_n x115_c]⟩).run prog w12.drew = .ok (.enter g av) w12.drew ∧ Calls prog g av w12.drew fun e w13 => ∃ x118 : Int, e = .returned (.tuple ⟨[.int .i64 x118, .nilIface]⟩) ∧ 
                ∃ (x128 : Option Addr) (x128_n x128_c : Nat), w13.cell? ((⟨a, 0, none⟩ : Addr).add 1) = some (.slice x128 x128_n x128_c) ∧ 
                ((0 : Int) ≤ 0 ∧ 0 ≤ (x128_c : Int)) ∧ 
                CanStore w13 ((⟨a, 0, none⟩ : Addr).add 1) (.slice x128 0 x128_c) ∧ ∀ w14, w14 = w13.setCell ((⟨a, 0, none⟩ : Addr).add 1) (.slice x128 0 x128_c) → 
                Calls prog 132 ⟨[.pointer (some (⟨a, 0, none⟩ : Addr))]⟩ w14 fun e w15 => e = .returned (.tuple ⟨[]⟩) ∧ 
                R .nilIface w15) ∧ (x106 = false →
              Calls prog 132 ⟨[.pointer (some (⟨a, 0, none⟩ : Addr))]⟩ w12 fun e w16 => e = .returned (.tuple ⟨[]⟩) ∧ 
                R .nilIface w16)) → Kx_3 w11) →
            ∃ x92 : Bool, w2.drew.cell? ((⟨a, 0, none⟩ : Addr).add 6) = some (.bool x92) ∧ 
            (x92 = true →
            ∃ (x97 : Option Addr) (x97_n x97_c : Nat), w2.drew.cell? ((⟨a, 0, none⟩ : Addr).add 1) = some (.slice x97 x97_n x97_c) ∧ 
              ∀ w17, w17 = w2.drew.alloc (.cells ⟨[.int .u8 10]⟩ 5) → 
              ∃ (x99 : Option Addr) (x99_n x99_c : Nat), ∃ w18, BuiltinOk prog .append #[23, 23] 23 [false, false] [.slice x97 x97_n x97_c, .slice (some (⟨w2.drew.heap.size, 0, none⟩)) 1 1] w17 (.slice x99 x99_n x99_c) w18 ∧ 
              CanStore w18 ((⟨a, 0, none⟩ : Addr).add 1) (.slice x99 x99_n x99_c) ∧ ∀ w19, w19 = w18.setCell ((⟨a, 0, none⟩ : Addr).add 1) (.slice x99 x99_n x99_c) → 
              Kx_3 w19) ∧ (x92 = false →
            Kx_3 w2.drew)) ∧ (decide (x64 = 1) = false →
          Calls prog 132 ⟨[.pointer (some (⟨a, 0, none⟩ : Addr))]⟩ w2.drew fun e w20 => e = .returned (.tuple ⟨[]⟩) ∧ 
            R .nilIface w20))))) : VC72 ⟨a, 0, none⟩ w R := by
  unfold VC72
  intro Kx hKx
  have hkd : Keeps w w.drew := (Keeps.refl w).drew
  have hkd2 : Keeps w.drew w.drew.drew := (Keeps.refl w.drew).drew
  have key : Kx w.drew := by
    refine hKx w.drew ?_
    intro K1 hK1
    exact put_end ((h.keeps hkd).keeps hkd2) (by omega) 125 rfl hc K1 fun w1 hf1 hw1 => hK1 w1 (hK w1 (((hkd.trans hkd2).fr h.size).trans hf1) hw1)
  obtain ⟨fr, bp, bn, bc', sg, sn, sc, cs, hp, hf⟩ := h.keeps hkd
  have hroom := hp.room
  refine ⟨_, _, _, hp.c2, _, hp.c3, ⟨by omega, by omega⟩, _, rfl, t, hp.top_mode hf, ?_⟩
  rcases ht with rfl | rfl | rfl
  · exact ⟨fun _ => ⟨fun _ => key, fun h => absurd h (by decide)⟩, fun h => absurd h (by decide)⟩
  · exact ⟨fun h => absurd h (by decide), fun _ => ⟨fun _ => ⟨fun _ => key, fun h => absurd h (by decide)⟩, fun h => absurd h (by decide)⟩⟩
  · exact ⟨fun h => absurd h (by decide), fun _ => ⟨fun h => absurd h (by decide), fun _ => ⟨fun _ => key, fun h => absurd h (by decide)⟩⟩⟩
/-- A document ends; its scope's code too, at mode 6. -/
theorem ret72 {B : Nat} {w : World} {a : Nat} {wx : Addr} {can esc : Bool} {buf out : List UInt8} {t u : Int} {ms : List Int} (h : WR B w a wx can esc buf (t :: u :: ms)) (ht : t = 2 ∨ t = 6) (hc : closeB buf 125 out) (hm : 1 ≤ ms.length) (hd : ms.length ≤ 900) (hl : buf.length ≤ 1000000000) :
    Wrote 72 [.pointer (some ⟨a, 0, none⟩)] B w a wx can esc (out ++ (if t = 6 then [125] else []) ++ [44]) ms .nilIface := by
  have hol : out.length ≤ buf.length + 1 := by rcases hc with ⟨l, h1, h2⟩ | ⟨l, b, h1, _, h2⟩ <;> simp [h1, h2]
  refine Wrote.of (c72 _ w _ ?_)
  refine start72 h (by omega) hc hl _ fun w2 hf2 hw2 => ?_
  have hkd : Keeps w2 w2.drew := (Keeps.refl w2).drew
  have hw2d := hw2.keeps hkd
  have hfd := hf2.trans (hkd.fr hw2.size)
  obtain ⟨fr, bp, bn, bc', sg, sn, sc, cs, hp, hf⟩ := hw2.keeps hkd
  have hroom := hp.room
  refine ⟨_, _, _, hp.c2, _, hp.c3, ⟨by omega, by omega⟩, _, rfl, t, hp.top_mode hf, ?_⟩
  intro K2 hK2
  have key : ∀ w3 b3, Fr B w w3 → WR B w3 a wx can esc b3 (t :: u :: ms) → b3 = out ++ (if t = 6 then [125] else []) → K2 w3 := by
    intro w3 b3 hf3 hw3 hb3
    have hb3l : b3.length ≤ out.length + 1 := by rw [hb3]; split <;> simp
    refine hK2 w3 (put_lit hw3 (by omega) [44] rfl rfl (by decide) _ fun w4 hf4 hw4 => ?_)
    refine (ret132b hw4 (by omega) hm (by omega)).mono ?_
    rintro e w5 ⟨rfl, hf5, hw5⟩
    exact ⟨rfl, rfl, (hf3.trans hf4).trans hf5, by rw [← hb3]; exact hw5⟩
  rcases ht with rfl | rfl
  · exact ⟨fun h => absurd h (by decide), fun _ => ⟨fun _ => key _ out hfd hw2d (by simp), fun h => absurd h (by decide)⟩⟩
  · exact ⟨fun _ => put_lit hw2d (by omega) [125] rfl rfl (by decide) _ fun w4 hf4 hw4 => key w4 _ (hfd.trans hf4) hw4 (by simp), fun h => absurd h (by decide)⟩
end Go.Proofs.Tryz
/- The end of the document at the top: its bytes go to the outer buffer. -/
set_option linter.unusedVariables false
namespace Go.Proofs.Tryz
open Go.Vc Go.RowKit

theorem u108 : prog.underlying 108 = some (.interface (prog.methodsAt 108)) := by kernel_rfl
theorem neq_nil (wx : Addr) (w : World) : ((do eqGuard .neq 108 (.tmp 105) (.const .nilIface) (.iface 72 (.pointer (some wx))) .nilIface; binOp .neq 108 (.iface 72 (.pointer (some wx))) .nilIface : Sem Value)).run prog w = .ok (.bool true) w := by
  have e : eqGuard .neq 108 (.tmp 105) (.const .nilIface) (.iface 72 (.pointer (some wx))) .nilIface = pure () := rfl
  rw [e, Sem.run_bind, Sem.run_pure, Result.andThen_ok, run_neq_held_nil w 108 72 _ u108]
theorem call_write (wx : Addr) (p : Option Addr) (n c : Nat) (w : World) : (callMethod (.iface 72 (.pointer (some wx))) "Write" ⟨[.slice p n c]⟩).run prog w = .ok (.enter 303 #[.pointer (some wx), .slice p n c]) w := by
  kernel_rfl

/-- At the top nothing is taken off. -/
theorem ret132t {w : World} {a sg sn sc fr : Nat} (h2 : w.cell? ((⟨a, 0, none⟩ : Addr).add 2) = some (.slice (some ⟨sg, 0, none⟩) sn sc)) (h3 : w.cell? ((⟨a, 0, none⟩ : Addr).add 3) = some (.int .i64 (fr : Int))) (hr : fr < sn)
    (ht : w.cell? ((⟨sg, 0, none⟩ : Addr).add (((fr : Nat) : Int).toNat * 1)) = some (.int .i64 1)) :
    Calls prog 132 ⟨[.pointer (some ⟨a, 0, none⟩)]⟩ w fun e w' => e = .returned (.tuple ⟨[]⟩) ∧ Keeps w w' := by
  have := c132 ⟨a, 0, none⟩ w (fun v w' => v = .tuple ⟨[]⟩ ∧ Keeps w w') ?_
  · exact this.mono fun e w' ⟨v, he, hv, h⟩ => ⟨by rw [he, hv], h⟩
  unfold VC132
  refine ⟨_, _, _, h2, _, h3, ⟨by omega, by omega⟩, _, rfl, 1, ht, ?_⟩
  intro Kx hK
  refine ⟨fun h => absurd h (by decide), fun _ => hK _ w.drew ⟨fun h => absurd h (by decide), fun _ => ?_⟩⟩
  intro K1 hK1
  refine ⟨fun h => absurd h (by decide), fun _ => ⟨fun h => absurd h (by decide), fun _ => hK1 _ w.drew ⟨fun h => absurd h (by decide), fun _ => ⟨rfl, (Keeps.refl w).drew⟩⟩⟩⟩
theorem others_var {b : Nat} {w w' : World} (h : Lib.OthersKept 5 (some b) w w') {g t : Nat} {cs : List Value} (hv : Var w g t cs) (hg : g ≠ b) (ht : t ≠ 5) : Var w' g t cs :=
  h g _ hv (fun e => hg (Option.some.inj e)) (fun c fz e => by simp only [Obj.cells.injEq] at e; exact ht e.2.1)
/-- The document at the top ends: its bytes and a newline lie in the outer buffer. -/
theorem ret72t {B : Nat} {w : World} {a b : Nat} {can esc : Bool} {buf out : List UInt8} (h : WR B w a ⟨b, 0, none⟩ can esc buf [1]) (hc : closeB buf 125 out) (hl : buf.length ≤ 1000000000) (hbB : b < B)
    (hb : Var w b 69 [.slice none 0 0, .int .i64 0, .int .i8 0]) :
    Calls prog 72 ⟨[.pointer (some ⟨a, 0, none⟩)]⟩ w fun e w' => e = .returned .nilIface ∧ Buf b (out ++ [10]) w' ∧ Below b w w' := by
  have hol : out.length ≤ buf.length + 1 := by rcases hc with ⟨l, h1, h2⟩ | ⟨l, b, h1, _, h2⟩ <;> simp [h1, h2]
  have := c72 ⟨a, 0, none⟩ w (fun v w' => v = .nilIface ∧ Buf b (out ++ [10]) w' ∧ Below b w w') ?_
  · exact this.mono fun e w' ⟨v, he, hv, h⟩ => ⟨by rw [he, hv], h⟩
  refine start72 h (by omega) hc hl _ fun w2 hf2 hw2 => ?_
  have hkd : Keeps w2 w2.drew := (Keeps.refl w2).drew
  have hfd := hf2.trans (hkd.fr hw2.size)
  have hwd := hw2.keeps hkd
  obtain ⟨fr, bp, bn, bc', sg, sn, sc, cs, hp, hf⟩ := hw2.keeps hkd
  have hroom := hp.room
  refine ⟨_, _, _, hp.c2, _, hp.c3, ⟨by omega, by omega⟩, _, rfl, 1, hp.top_mode hf, ?_⟩
  intro K2 hK2
  refine ⟨fun h => absurd h (by decide), fun _ => ⟨fun h => absurd h (by decide), fun _ => ⟨fun _ => ?_, fun h => absurd h (by decide)⟩⟩⟩
  intro K3 hK3
  refine ⟨true, hp.c6, fun _ => put_lit hwd (by omega) [10] rfl rfl (by decide) _ fun w19 hf19 hw19 => hK3 w19 ?_, fun h => by cases h⟩
  clear hp hf hroom
  obtain ⟨fr, bp, bn, bc', sg, sn, sc, cs, hp, hf⟩ := hw19
  have hroom := hp.room
  have hfr0 : Fr B w w19 := hfd.trans hf19
  have hvb := hfr0.tags b 69 _ (by decide) (by decide) (by decide) hb
  refine ⟨_, hp.c0, true, w19, neq_nil _ _, fun _ => ?_, fun h => by cases h⟩
  have hkd19 : Keeps w19 w19.drew := (Keeps.refl w19).drew
  refine ⟨[((⟨a, 0, none⟩ : Addr), .iface 72 (.pointer (some ⟨b, 0, none⟩))), ((⟨a, 0, none⟩ : Addr).add 1, .slice bp bn bc')], kept_of (fun p hp' => ?_), ⟨b, 0, none⟩, List.mem_cons_self, bp, bn, bc', List.mem_cons_of_mem _ List.mem_cons_self, 303, _, call_write _ _ _ _ _, ?_⟩
  · simp only [List.mem_cons, List.mem_nil_iff, or_false] at hp'
    rcases hp' with rfl | rfl
    · exact hp.c0
    · exact hp.c1
  have hpd := hp.keeps hkd19
  have hvd := hvb.keeps hkd19
  have hB := hpd.size
  have hbuf : Lib.IsBuffer 69 5 b b [] w19.drew := ⟨Nat.le_refl _, .slice none 0 0, 0, hvd, World.ownsRow_nil _ _ _ _, by simp [Value.ownBlock]⟩
  obtain ⟨g, cs5, hbp, hgB, hv5, hvl⟩ := hpd.own.row (by simp)
  have hgb : g ≠ b := var_ne hv5 hvd (by decide)
  have hbn := hpd.own.len
  subst hbp
  have hwrite := Buffer_Write_any b b [] (bc (out ++ [10])) ⟨g, 0, none⟩ bn bc' w19.drew hbuf (by omega) (fun v hv => by cases hv) (by rw [bc_length]; exact hbn.symm) hgb
    (fun j v hj => by obtain ⟨x, hx, rfl⟩ := bc_get hj; exact hpd.own.reads.at hx) (bc_one _) (by rw [hbn]; simp; omega)
  refine hwrite.mono ?_
  rintro e w13 ⟨rfl, hb13, hk13, ho13⟩
  have hab : a ≠ b := by have := hpd.base; omega
  have hsb : sg ≠ b := by have := hpd.sbase; omega
  have hrow13 := others_var ho13 hpd.row hab (by decide)
  have hstk13 := others_var ho13 hpd.stk hsb (by decide)
  refine ⟨_, rfl, some ⟨g, 0, none⟩, bn, bc', by rw [add_at]; exact hrow13.lies.at 1 rfl rfl, ⟨by omega, by omega⟩, by rw [add_at]; exact hrow13.can (by simp [wcells]) rfl, fun w14 hw14 => ?_⟩
  rw [add_at] at hw14
  have hrow14 := hrow13.set 1 (.slice (some ⟨g, 0, none⟩) 0 bc')
  have hstk14 := var_setCell hstk13 ⟨a, 0 + 1, none⟩ (.slice (some ⟨g, 0, none⟩) 0 bc') (var_ne hstk13 hrow13 (by decide))
  have hb14 : Buf b (out ++ [10]) w14 := by
    rw [hw14]
    obtain ⟨h1, v, lr, h2, h3, h4⟩ := hb13
    rw [List.nil_append] at h3
    refine ⟨h1, v, lr, ?_, ?_, h4⟩
    · rw [Below.heap_setCell _ _ _ _ (show b ≠ a by omega)]; exact h2
    · obtain ⟨p', c', rfl⟩ := slice_of_owns h3
      have hown : Own b w13 p' _ c' (out ++ [10]) := ⟨h3, bc_length _⟩
      exact (own_setCell hown hrow13 (by decide) 1 _).1
  have hk14 : Below b w19.drew w14 := by rw [hw14]; exact hk13.setCell (p := ⟨a, 0 + 1, none⟩) (by have := hpd.base; show b ≤ a; omega) _
  rw [← hw14] at hrow14 hstk14
  have hcl := hpd.clen
  refine (ret132t (sg := sg) (sn := sn) (sc := sc) (fr := fr) (by rw [add_at]; exact hrow14.lies.at 2 rfl rfl) (by rw [add_at]; exact hrow14.lies.at 3 rfl rfl) hroom ?_).mono ?_
  · have hr : fr = 0 := by simpa using hf
    subst hr
    rw [add_at]
    exact hstk14.lies.at 0 (hpd.mode 0 1 rfl) rfl
  · rintro e w15 ⟨rfl, hk15⟩
    refine ⟨rfl, rfl, hb14.keeps hk15, ?_⟩
    have h1 : Below b w w19 := hfr0.below.mono (by omega)
    exact ((h1.trans (hkd19.below (by have := hp.size; omega))).trans hk14).trans (hk15.below (by have := Below.size hk14; omega))
end Go.Proofs.Tryz
/- A text that the reference's escapes leave as it is. -/
set_option linter.unusedVariables false
namespace Go.Proofs.Tryz
open Go.Vc Go.RowKit
theorem stepF_small (s : List UInt8) (h : s ≠ []) : (stepF s).1 ≤ 4 ∧ ((stepF s).2.1 < 128 → (stepF s).1 = 1) := by
  obtain ⟨a, r, rfl⟩ : ∃ a r, s = a :: r := by cases s with | nil => exact absurd rfl h | cons a r => exact ⟨_, _, rfl⟩
  unfold stepF
  by_cases h0 : (runeF (a :: r)).1 = 0
  · rw [if_pos h0]; exact ⟨by show 1 ≤ 4; decide, fun _ => rfl⟩
  · rw [if_neg h0]
    simp only
    by_cases ha : a.toNat < 128
    · have e : runeF (a :: r) = (1, a.toNat) := by rw [runeF, if_pos ha]
      rw [e]; exact ⟨by show 1 ≤ 4; decide, fun _ => rfl⟩
    · have hb := rune_big a r (by omega) h0
      refine ⟨?_, fun hc => by omega⟩
      rw [runeF, if_neg ha] at h0 ⊢
      have hl : (lead a.toNat).1 ≤ 4 := by unfold lead; repeat' split
                                           all_goals simp
      generalize (lead a.toNat).1 = n at *
      unfold tailF at h0 ⊢
      repeat' split
      all_goals simp <;> omega
theorem piece_same (bs : List UInt8) (c : Nat) (h1 : 1 ≤ bs.length) (h4 : bs.length ≤ 4) (h : c < 128 → bs.length = 1) : bs.length ≤ (piece true bs c).length ∧ ((piece true bs c).length = bs.length → piece false bs c = bs) := by
  unfold piece hex2
  split
  · have := h (by omega); simp; omega
  · split
    · have := h (by omega); simp; omega
    · split
      · have := h (by omega); simp; omega
      · rename_i h3
        have h3' : ¬ (c < 32 ∨ (false = true ∧ (c = 60 ∨ c = 62 ∨ c = 38))) := by
          rintro (h | ⟨h, _⟩)
          · exact h3 (.inl h)
          · cases h
        rw [if_neg h3']
        split
        · simp only [List.length_append, List.length_cons, List.length_nil]; omega
        · exact ⟨Nat.le_refl _, fun _ => rfl⟩
theorem escF_same : ∀ (n : Nat) (s : List UInt8), s.length ≤ n → s.length ≤ (escF true s).length ∧ ((escF true s).length = s.length → escF false s = s)
  | 0, s, h => by
    have : s = [] := List.eq_nil_of_length_eq_zero (by omega)
    subst this; exact ⟨Nat.zero_le _, fun _ => rfl⟩
  | n + 1, s, h => by
    by_cases hs : s = []
    · subst hs; exact ⟨Nat.zero_le _, fun _ => rfl⟩
    · have h1 := stepF_pos s
      have h2 := stepF_le s hs
      obtain ⟨h3, h4⟩ := stepF_small s hs
      have hl : (s.take (stepF s).1).length = (stepF s).1 := by rw [List.length_take]; omega
      obtain ⟨p1, p2⟩ := piece_same (s.take (stepF s).1) (stepF s).2.1 (by omega) (by omega) (by omega)
      obtain ⟨q1, q2⟩ := escF_same n (s.drop (stepF s).1) (by rw [List.length_drop]; omega)
      have hd : (s.drop (stepF s).1).length = s.length - (stepF s).1 := List.length_drop
      rw [escF_cons true s hs, escF_cons false s hs, List.length_append]
      refine ⟨by omega, fun he => ?_⟩
      rw [p2 (by omega), q2 (by omega), List.take_append_drop]
theorem strF_same (s : List UInt8) (h : strF true s = 34 :: (s ++ [34])) (e : Bool) : strF e s = 34 :: (s ++ [34]) := by
  have h' : escF true s = s := by
    unfold strF at h
    exact List.append_cancel_right (List.cons.inj h).2
  cases e with
  | true => exact h
  | false => unfold strF; rw [(escF_same _ s (Nat.le_refl _)).2 (by rw [h'])]
end Go.Proofs.Tryz
/- The reference: ExtText writes the text of a value. -/
set_option linter.unusedVariables false
namespace Go.Proofs.Tryz
open Go.Vc Go.RowKit Go.Sort

theorem sum_le_map {α : Type} (l : List α) (f g : α → Nat) (h : ∀ a ∈ l, f a ≤ g a) : (l.map f).sum ≤ (l.map g).sum := by
  induction l with
  | nil => simp
  | cons a l ih =>
    have h1 := h a (by simp)
    have h2 := ih fun b hb => h b (by simp [hb])
    simp only [List.map_cons, List.sum_cons]; omega
theorem sum_mul_map {α : Type} (l : List α) (f : α → Nat) (c : Nat) : (l.map fun a => c * f a).sum = c * (l.map f).sum := by
  induction l with
  | nil => simp
  | cons a l ih => simp only [List.map_cons, List.sum_cons, ih, Nat.mul_add]
theorem nparts_kid {d : Nat} {x : Val} {n : List UInt8} {y : Val} (h : (n, y) ∈ x.kids) : nparts d y + 1 ≤ nparts (d + 1) x := by
  have : nparts d y ≤ (x.kids.map fun p => nparts d p.2).sum := by
    generalize x.kids = l at h
    induction l with
    | nil => cases h
    | cons a l ih =>
      simp only [List.map_cons, List.sum_cons]
      rcases List.mem_cons.1 h with rfl | h
      · simp
      · have := ih h; omega
  simp only [nparts]; omega

theorem textV_succ (F : Nat → List UInt8) (can esc : Bool) (d : Nat) (x : Val) : textV F can esc (d + 1) x = ownT F can esc (fun three => kidsT esc three (x.kids.map fun p => (p.1, textV F can esc d p.2))) x := rfl
theorem textV_len {F : Nat → List UInt8} (hF : FloatIs F) (can esc : Bool) (w : World) (ht : Tabs w) : ∀ (d : Nat) (x : Val) (bp kp : Option Addr) (bc kc : Nat), Hangs d w x bp bc kp kc → FitsV d x →
    (textV F can esc (d + 1) x).length + 10000 ≤ 50000 * nparts d x ∧ ∀ three, (joinK ((x.kids.map fun p => (p.1, textV F can esc d p.2)).map (kidT esc three))).length ≤ 50000 * nparts d x := by
  intro d
  induction d with
  | zero =>
    intro x bp kp bc kc hh hf
    have ho := hh.own
    have hk : x.kids = [] := hf.2
    have := ownT_len hF can esc (fun three => kidsT esc three (x.kids.map fun p => (p.1, textV F can esc 0 p.2))) x w ht hf.own ho.2.2.2.1 ho.2.2.2.2.1 ho.2.2.2.2.2.1 2 (by intro b; rw [hk]; cases b <;> simp [kidsT, joinK])
    refine ⟨?_, fun three => ?_⟩
    · rw [textV_succ]; simp only [nparts]; omega
    · rw [hk]; simp [joinK]
  | succ d ih =>
    intro x bp kp bc kc hh hf
    have ho := hh.own
    have hj : ∀ three, (joinK ((x.kids.map fun p => (p.1, textV F can esc (d + 1) p.2)).map (kidT esc three))).length ≤ 50000 * (x.kids.map fun p => nparts d p.2).sum := by
      intro three
      refine Nat.le_trans (joinK_len _) ?_
      rw [List.map_map, List.map_map, ← sum_mul_map]
      refine sum_le_map _ _ _ ?_
      rintro ⟨n, y⟩ hm
      obtain ⟨i, hi⟩ := List.mem_iff_getElem?.1 hm
      obtain ⟨ka, bp', bc', kp', kc', _, _, hy⟩ := hh.kid hi
      obtain ⟨d', hd', htn, hfy⟩ := hf.kid hi
      have hd'' : d = d' := by omega
      subst hd''
      have := (ih y _ _ _ _ hy hfy).1
      have hn := textF_len htn
      have hs := strF_len esc n
      show (kidT esc three (n, textV F can esc (d + 1) y)).length + 1 ≤ 50000 * nparts d y
      unfold kidT
      split <;> simp only [List.length_append, List.length_cons, List.length_nil] <;> omega
    have h1 := hj true
    have h2 := hj false
    have := ownT_len hF can esc (fun three => kidsT esc three (x.kids.map fun p => (p.1, textV F can esc (d + 1) p.2))) x w ht hf.own ho.2.2.2.1 ho.2.2.2.2.1 ho.2.2.2.2.2.1 (2 + 50000 * (x.kids.map fun p => nparts d p.2).sum) (by
      intro b
      have := hj b
      cases b
      · simp only [kidsT, Bool.false_eq_true, if_false, List.length_append, List.length_cons, List.length_nil]; omega
      · simp only [kidsT, if_true, List.length_append, List.length_cons, List.length_nil]; omega)
    refine ⟨?_, fun three => Nat.le_trans (hj three) ?_⟩
    · rw [textV_succ]; simp only [nparts]; omega
    · simp only [nparts]; omega
end Go.Proofs.Tryz
/- The writer writes a single value. -/
set_option linter.unusedVariables false
namespace Go.Proofs.Tryz
open Go.Vc Go.RowKit Go.Sort
theorem u32_wrap_nat (B : Nat) : IntKind.u32.wrap ((B : Nat) : Int) = ((B % 4294967296 : Nat) : Int) := by
  show ((B : Int) % 4294967296) = _
  omega

theorem ret130 {F : Nat → List UInt8} (hF : FloatIs F) {w0 w : World} {a : Nat} {wx : Addr} {esc : Bool} {buf : List UInt8} {t : Int} {ms : List Int} (h : At w0 w a wx true esc buf t ms) (T : Tabs w0) (E : Esc w0)
    (x : Val) (bp kp : Option Addr) (bc kc d : Nat) (hh : Hangs d w0 x bp bc kp kc) (hown : OwnFits x) (hright : OwnRight x) (hk : x.kind ≠ 3 ∧ x.kind ≠ 4 ∧ x.kind ≠ 15) (ks : Bool → List UInt8) :
    Put 130 [.agg ⟨valCells x bp bc kp kc⟩] w0 w a wx true esc buf ms (ownT F true esc ks x) := by
  have ho := hh.own
  refine Wrote.of (c130 _ _ _ _ _ _ _ _ _ _ _ _ _ w _ ?_)
  unfold VC130
  intro w1 hw1
  have hk1 : Keeps w w1 := by rw [hw1]; exact (Keeps.refl w).alloc _
  have hv1 : Var w1 w.heap.size 26 (valCells x bp bc kp kc) := by rw [hw1]; exact var_alloc w _ 26
  clear hw1
  have h1 := h.keeps hk1
  have hd1 := h1.keeps (Keeps.refl w1).drew
  have htl := textF_len hown.1
  have htm := textF_len hown.2.1
  have htu := textF_utf8 hown.1
  have hmu := textF_utf8 hown.2.1
  have hbl := hown.2.2.1
  obtain ⟨tv, etext⟩ : ∃ tv, ownT F true esc ks x = tv := ⟨_, rfl⟩
  rw [etext]
  have fin : ∀ (k : Nat) (args : List Value) (w2 : World) (out : List UInt8), Keeps w w2 → Put k args w0 w2 a wx true esc buf ms out → tv = out →
      Calls prog k ⟨.pointer (some ⟨a, 0, none⟩) :: args⟩ w2 fun e w' => e = .returned .nilIface ∧ (Value.nilIface = Value.nilIface ∧ Fr w0.heap.size w w' ∧ WR w0.heap.size w' a wx true esc (buf ++ tv ++ [44]) ms) := by
    intro k args w2 out hk2 hp he
    exact hp.go fun w' hf hw => ⟨rfl, rfl, (hk2.fr h.size).trans hf, by rw [he]; exact hw⟩
  have rd : ∀ w', Keeps w0 w' → ReadsB w' bp x.b := fun w' k => ho.1.keeps k
  refine ⟨x.kind, hv1.lies.at 0 rfl rfl, fun h => ?_, fun h1' => ⟨fun h => ?_, fun h2 => ⟨fun h => ?_, fun h5 => ⟨fun h => ?_, fun h6 => ⟨fun h => ?_, fun h7 => ⟨fun h => ?_, fun h8 => ⟨fun h => ?_, fun h9 => ⟨fun h => ?_, fun h10 => ⟨fun h => ?_, fun h11 => ⟨fun h => ?_, fun h12 => ⟨fun h => ?_, fun h13 => ⟨fun h => ?_, fun h14 =>
    ⟨fun h => ?_, fun h16 => ⟨fun h => ?_, fun h17 => ⟨fun h => ?_, fun h18 => ⟨fun h => ?_, fun h19 => ⟨fun h => ?_, fun h255 => ⟨fun h => ?_, fun h127 => ?_⟩⟩⟩⟩⟩⟩⟩⟩⟩⟩⟩⟩⟩⟩⟩⟩⟩⟩
  · have h : x.kind = 1 := of_decide_eq_true h
    have hb0 := ho.2.2.2.2.1
    refine ⟨x.bits, hv1.lies.at 4 rfl rfl, x.bits.toNat, w1, frombits _ _, fin _ _ _ _ hk1 (ret178 h1 hF T x.bits.toNat (by unfold inU64 at hb0; omega) rfl) ?_⟩
    rw [← etext]; simp [ownT, num1F, h]
  · have h : x.kind = 2 := of_decide_eq_true h
    exact ⟨x.text, hv1.lies.at 1 rfl rfl, fin _ _ _ _ hk1 (ret179 h1 T E x.text htu htl) (by rw [← etext]; simp [ownT, h])⟩
  · have h : x.kind = 5 := of_decide_eq_true h
    have hm : (0 : Int) ≤ x.num % 256 ∧ x.num % 256 < 256 := by omega
    have hwr : IntKind.u8.wrap x.num = ((x.num % 256).toNat : Int) := by
      rw [Int.toNat_of_nonneg hm.1]; rfl
    exact ⟨bp, x.b.length, bc, hv1.lies.at 6 rfl rfl, x.num, hv1.lies.at 3 rfl rfl, _, hwr, fin _ _ _ _ hk1 (ret180 h1 bp bc x.b (x.num % 256).toNat (by omega) ho.1 ho.2.1.2 hbl) (by rw [← etext]; simp [ownT, h])⟩
  · have h : x.kind = 6 := of_decide_eq_true h
    exact fin _ _ _ _ hk1 (ret181 h1) (by rw [← etext]; simp [ownT, h])
  · have h : x.kind = 7 := of_decide_eq_true h
    have h12 := hright.2.1 (.inl h)
    refine ⟨bp, x.b.length, bc, hv1.lies.at 6 rfl rfl, (ret183 bp bc x.b h12 w1 (rd w1 h1.keep)).go fun w2 hk2 => ⟨_, rfl, fin _ _ _ _ (hk1.trans hk2) (ret182 (h1.keeps hk2) x.b h12) (by rw [← etext]; simp [ownT, h])⟩⟩
  · have h : x.kind = 8 := of_decide_eq_true h
    refine ⟨x.num, hv1.lies.at 3 rfl rfl, fin _ _ _ _ hk1 (ret184 h1 (!decide (x.num = 0))) ?_⟩
    rw [← etext]
    rcases hright.2.2.1 h with e | e <;> simp [ownT, h, e]
  · have h : x.kind = 9 := of_decide_eq_true h
    exact ⟨x.num, hv1.lies.at 3 rfl rfl, fin _ _ _ _ hk1 (ret185 h1 T x.num ho.2.2.2.1.1 ho.2.2.2.1.2) (by rw [← etext]; simp [ownT, h])⟩
  · have h : x.kind = 10 := of_decide_eq_true h
    exact fin _ _ _ _ hk1 (ret186 h1) (by rw [← etext]; simp [ownT, h])
  · have h : x.kind = 11 := of_decide_eq_true h
    exact ⟨x.text, hv1.lies.at 1 rfl rfl, x.more, hv1.lies.at 2 rfl rfl, fin _ _ _ _ hk1 (ret187 h1 T E x.text x.more htu htl hmu htm (hown.2.2.2.2.2 h)) (by rw [← etext]; simp [ownT, h])⟩
  · have h : x.kind = 12 := of_decide_eq_true h
    have h12 := hright.2.1 (.inr h)
    have dr : Keeps w1 w1.drew := (Keeps.refl w1).drew
    have kept := hv1.lies.kept
    have mem : ∀ (j : Nat) (v : Value), (valCells x bp bc kp kc)[j]? = some v → ((⟨w.heap.size, j, none⟩ : Addr), v) ∈ rowFacts w.heap.size 0 (valCells x bp bc kp kc) := fun j v hj => by
      have := mem_rowFacts (b := w.heap.size) (o := 0) hj
      rwa [Nat.zero_add] at this
    refine ⟨_, kept, x.text, mem 1 _ rfl, bp, x.b.length, bc, mem 6 _ rfl, ?_⟩
    refine (ret183 bp bc x.b h12 w1.drew (rd _ hd1.keep)).go fun w2 hk2 => ⟨_, rfl, kept_keeps kept (dr.trans hk2), fin _ _ _ _ (hk1.trans (dr.trans hk2)) (ret188 (hd1.keeps hk2) x.b x.text h12 htl) ?_⟩
    have hs := strF_same x.text (hown.2.2.2.1 h) esc
    rw [← etext, ← hs]; simp [ownT, h]
  · have h : x.kind = 13 := of_decide_eq_true h
    exact ⟨x.text, hv1.lies.at 1 rfl rfl, fin _ _ _ _ hk1 (ret189 h1 T E x.text htu htl) (by rw [← etext]; simp [ownT, h])⟩
  · have h : x.kind = 14 := of_decide_eq_true h
    exact ⟨x.text, hv1.lies.at 1 rfl rfl, fin _ _ _ _ hk1 (ret190 h1 T E x.text htu htl) (by rw [← etext]; simp [ownT, h])⟩
  · have h : x.kind = 16 := of_decide_eq_true h
    have h32 := hright.2.2.2 h
    exact ⟨x.num, hv1.lies.at 3 rfl rfl, x.num, i32w (by omega) (by omega), fin _ _ _ _ hk1 (ret191 h1 T x.num (by omega) (by omega) rfl) (by rw [← etext]; simp [ownT, h])⟩
  · have h : x.kind = 17 := of_decide_eq_true h
    have hb0 := ho.2.2.2.2.1
    obtain ⟨B, hB⟩ : ∃ B : Nat, x.bits = B := ⟨x.bits.toNat, by unfold inU64 at hb0; omega⟩
    have hBl : B < 18446744073709551616 := by unfold inU64 at hb0; omega
    refine ⟨x.bits, hv1.lies.at 4 rfl rfl, by decide, ((B / 2 ^ 32 : Nat) : Int), by rw [hB]; exact fdiv_nat B 32, ((B / 2 ^ 32 : Nat) : Int), ?_, x.bits, hv1.lies.at 4 rfl rfl, ((B % 2 ^ 32 : Nat) : Int), by rw [hB]; exact u32_wrap_nat B, fin _ _ _ _ hk1 (ret192 h1 T (B / 2 ^ 32) (B % 2 ^ 32) (by omega) (by omega)) ?_⟩
    · rw [u32_wrap_nat, Nat.mod_eq_of_lt (by omega)]
    · rw [← etext]; simp [ownT, h, hB]
  · have h : x.kind = 18 := of_decide_eq_true h
    exact ⟨x.num, hv1.lies.at 3 rfl rfl, fin _ _ _ _ hk1 (ret193 h1 T x.num ho.2.2.2.1.1 ho.2.2.2.1.2 rfl) (by rw [← etext]; simp [ownT, h])⟩
  · have h : x.kind = 19 := of_decide_eq_true h
    have hb0 := ho.2.2.2.2.1
    have hh0 := ho.2.2.2.2.2.1
    obtain ⟨B, hB⟩ : ∃ B : Nat, x.bits = B := ⟨x.bits.toNat, by unfold inU64 at hb0; omega⟩
    obtain ⟨H, hH⟩ : ∃ H : Nat, x.high = H := ⟨x.high.toNat, by unfold inU64 at hh0; omega⟩
    have hBl : B < 18446744073709551616 := by unfold inU64 at hb0; omega
    have hHl : H < 18446744073709551616 := by unfold inU64 at hh0; omega
    have dk := decOf_ok H B hHl hBl
    have q1 := decTextF_len _ dk.2.1 dk.2.2.1 dk.2.2.2
    have hok := hown.2.2.2.2.1 h
    rw [hH, hB] at hok
    refine ⟨x.high, hv1.lies.at 5 rfl rfl, x.bits, hv1.lies.at 4 rfl rfl, ?_⟩
    rw [hH, hB]
    refine (ret195 _ _ w1).go fun w2 hk2 => ⟨_, rfl, fin _ _ _ _ (hk1.trans hk2) (ret194 (h1.keeps hk2) T H B hHl hBl hok q1) ?_⟩
    rw [← etext]; simp [ownT, h, hB, hH]
  · have h : x.kind = 255 := of_decide_eq_true h
    exact fin _ _ _ _ hk1 (ret196 h1) (by rw [← etext]; simp [ownT, h])
  · have h : x.kind = 127 := of_decide_eq_true h
    exact fin _ _ _ _ hk1 (ret197 h1) (by rw [← etext]; simp [ownT, h])
  · exfalso
    have hkn := hright.1
    simp only [knownB, Bool.or_eq_true, Bool.and_eq_true, decide_eq_true_eq] at hkn
    simp only [decide_eq_false_iff_not] at *
    omega
end Go.Proofs.Tryz
/- The writer writes a document's elements. -/
set_option linter.unusedVariables false
namespace Go.Proofs.Tryz
open Go.Vc Go.RowKit Go.Sort

/-- What the writer writes for the kids: each with a comma behind it. -/
def kidsW (esc three : Bool) (ps : List (List UInt8 × List UInt8)) : List UInt8 := ps.flatMap fun p => kidT esc three p ++ [44]
theorem comma_shift : ∀ (r : List (List UInt8)), 44 :: (r.flatMap fun q => q ++ [44]) = (r.flatMap fun q => 44 :: q) ++ [44]
  | [] => rfl
  | q :: r => by
    rw [List.flatMap_cons, List.flatMap_cons, List.append_assoc q [44], List.append_assoc, ← comma_shift r]
    simp
theorem kidsW_join (esc three : Bool) (ps : List (List UInt8 × List UInt8)) (h : ps ≠ []) : kidsW esc three ps = joinK (ps.map (kidT esc three)) ++ [44] := by
  cases ps with
  | nil => exact absurd rfl h
  | cons p r =>
    have e : kidsW esc three r = (r.map (kidT esc three)).flatMap fun q => q ++ [44] := by
      unfold kidsW; rw [List.flatMap_map]
    have e2 : kidsW esc three (p :: r) = kidT esc three p ++ (44 :: kidsW esc three r) := by
      unfold kidsW; rw [List.flatMap_cons, List.append_assoc]; rfl
    rw [e2, e, comma_shift]
    simp [joinK, List.append_assoc]
theorem kidsW_close (esc three : Bool) (ps : List (List UInt8 × List UInt8)) (l : List UInt8) (b c : UInt8) (hb : b ≠ 44) : closeB (l ++ [b] ++ kidsW esc three ps) c (l ++ [b] ++ joinK (ps.map (kidT esc three)) ++ [c]) := by
  by_cases h : ps = []
  · subst h
    exact .inr ⟨l, b, by simp [kidsW], hb, by simp [kidsW, joinK]⟩
  · exact .inl ⟨l ++ [b] ++ joinK (ps.map (kidT esc three)), by rw [kidsW_join esc three ps h]; simp [List.append_assoc], rfl⟩
theorem kidsW_succ (esc three : Bool) (ps : List (List UInt8 × List UInt8)) (k : Nat) (p : List UInt8 × List UInt8) (h : ps[k]? = some p) : kidsW esc three (ps.take (k + 1)) = kidsW esc three (ps.take k) ++ kidT esc three p ++ [44] := by
  unfold kidsW
  rw [take_succ_get ps k p h, List.flatMap_append]
  simp

/-- What the writer asks of a kid. -/
def KidW (T : Val → List UInt8) (N : Val → Nat) (w0 : World) (a : Nat) (wx : Addr) (esc : Bool) (t : Int) (ms : List Int) (kp : Option Addr) (i : Nat) (n : List UInt8) (y : Val) : Prop :=
  ∃ (ka : Addr) (bp' : Option Addr) (bc' : Nat) (kp' : Option Addr) (kc' : Nat), kp = some ka ∧
    LoadsRow prog 46 w0 (ka.add (i * 9)) (Value.string (mkS n) :: valCells y bp' bc' kp' kc') ∧ textF n = true ∧ (T y).length + 10000 ≤ 50000 * N y ∧
    ∀ w buf, At w0 w a wx true esc buf t ms → buf.length + 50000 * N y ≤ 1000000000 → Put 71 [.agg ⟨valCells y bp' bc' kp' kc'⟩] w0 w a wx true esc buf ms (T y)

theorem ret41 (Tx : Val → List UInt8) (N : Val → Nat) {w0 w : World} {a : Nat} {wx : Addr} {esc : Bool} {buf : List UInt8} {m : Int} {ms : List Int} (h : WR w0.heap.size w a wx true esc buf (m :: ms)) (hk : Keeps w0 w) (T : Tabs w0) (E : Esc w0)
    (hm : m = 2 ∨ m = 1 ∨ m = 6) (hd : ms.length ≤ 890) (ks : List (List UInt8 × Val)) (kp : Option Addr) (kc : Nat) (hkn : ks.length ≤ 1125899906842624)
    (hl : buf.length + 50000 * (ks.map fun p => N p.2).sum + 10000 ≤ 1000000000)
    (hkid : ∀ i n y, ks[i]? = some (n, y) → KidW Tx N w0 a wx esc 5 (m :: ms) kp i n y) (Q : World → Prop)
    (h72 : ∀ w1, Fr w0.heap.size w w1 → WR w0.heap.size w1 a wx true esc (buf ++ kidsW esc true (ks.map fun p => (p.1, Tx p.2))) (m :: ms) → Calls prog 72 ⟨[.pointer (some ⟨a, 0, none⟩)]⟩ w1 fun e w' => e = .returned .nilIface ∧ Q w') :
    Calls prog 41 ⟨[.pointer (some ⟨a, 0, none⟩), .slice kp ks.length kc]⟩ w fun e w' => e = .returned (.bool true) ∧ Q w' := by
  have := c41 ⟨a, 0, none⟩ kp ks.length kc w (fun v w' => v = .bool true ∧ Q w') ?_
  · exact this.mono fun e w' ⟨v, he, hv, h⟩ => ⟨by rw [he, hv], h⟩
  unfold VC41
  let ps : List (List UInt8 × List UInt8) := ks.map fun p => (p.1, Tx p.2)
  have hps : ps.length = ks.length := by simp [ps]
  refine ⟨fun mm i w1 => Fr w0.heap.size w w1 ∧ ∃ k : Nat, i = k ∧ k ≤ ks.length ∧ mm = ks.length - k ∧ WR w0.heap.size w1 a wx true esc (buf ++ kidsW esc true (ps.take k)) (m :: ms) ∧
      (buf ++ kidsW esc true (ps.take k)).length + 50000 * ((ks.drop k).map fun p => N p.2).sum + 10000 ≤ 1000000000,
    ⟨ks.length, Fr.refl _ _, 0, rfl, by omega, rfl, by simpa [kidsW] using h, by simpa [kidsW] using hl⟩, ?_⟩
  rintro mm i w1 ⟨hf1, k, rfl, hkl, rfl, hw1, hlen⟩
  refine ⟨fun hlt => ?_, fun hge => ?_⟩
  · have hlt : k < ks.length := by have := of_decide_eq_true hlt; omega
    have hget := List.getElem?_eq_getElem hlt
    rcases hny : ks[k]'hlt with ⟨n, y⟩
    rw [hny] at hget
    have hdrop : ks.drop k = (n, y) :: ks.drop (k + 1) := by rw [List.drop_eq_getElem_cons hlt, hny]
    rw [hdrop, List.map_cons, List.sum_cons] at hlen
    dsimp only at hlen
    have hgetp : ps[k]? = some (n, Tx y) := by simp [ps, hget]
    have hsucc := kidsW_succ esc true ps k _ hgetp
    obtain ⟨ka, bp', bc', kp', kc', hka, hrow, htn, hty, hcall⟩ := hkid k n y hget
    have hnl := textF_len htn
    have hsl := strF_len esc n
    have hk01 := hf1.keep hk
    refine ⟨⟨by omega, by omega⟩, ka, hka, _, _, _, _, _, _, _, _, _, _, _, _, _, loadsRow_keeps hrow hk01, fun w2 hw2 => ?_⟩
    obtain ⟨w3, hst, hk3, hs3, hv3⟩ := store_new (t := 46) (cs := Value.string (mkS n) :: valCells y bp' bc' kp' kc') hw2 n46 rfl rfl rfl
    refine ⟨w3, hst, n, hv3.lies.at 0 rfl rfl, ?_⟩
    generalize hbk : buf ++ kidsW esc true (ps.take k) = bk at *
    refine (ret70 (hw1.keeps hk3) (hk01.trans hk3) T E hm (by omega) (by omega) n (textF_utf8 htn) hnl).go fun w4 hf4 hw4 => ⟨_, rfl, ?_⟩
    have hv4 := hf4.tags _ 46 _ (by decide) (by decide) (by decide) hv3
    refine ⟨_, _, _, _, _, _, _, _, _, _, _, _, (hv4.lies.sub 1 8).row n26, ?_⟩
    have hf14 := (hk3.fr hw1.size).trans hf4
    have hat : At w0 w4 a wx true esc (bk ++ (strF esc n ++ [58])) 5 (m :: ms) := ⟨hw4, .inl rfl, by simp, by simp; omega, by simp; omega, hf14.keep hk01⟩
    refine (hcall w4 _ hat (by simp; omega)).go fun w5 hf5 hw5 => ⟨rfl, _, i64w (by omega) (by omega), ks.length - (k + 1), by omega, (hf1.trans hf14).trans hf5, k + 1, by omega, by omega, rfl, ?_, ?_⟩
    · rw [hsucc, ← List.append_assoc, ← List.append_assoc, hbk]
      simpa [kidT, List.append_assoc] using hw5
    · rw [hsucc, ← List.append_assoc, ← List.append_assoc, hbk]
      simp only [kidT, if_true, List.length_append, List.length_cons, List.length_nil] at hlen ⊢
      omega
  · have hge := of_decide_eq_false hge
    have hkk : k = ks.length := by omega
    have hall : ps.take k = ps := List.take_of_length_le (by omega)
    rw [hall] at hw1
    refine (h72 w1 hf1 hw1).mono ?_
    rintro e w' ⟨rfl, hq⟩
    exact ⟨rfl, rfl, hq⟩
end Go.Proofs.Tryz
