/- Parts of a proof, joined: W4, W5. -/
import Derived.Test.YtfofafjemgfobaaGreatDoorZ19
import Derived.Test.YtfofafjemgfobaaGreatDoorZ20
import Derived.Test.YtfofafjemgfobaaGreatDoorZ21
import Derived.Lib.SlBytesConst
import Derived.Laws.Cover4
/- What the writer's methods for single values leave: the bytes of a value and a comma. -/
set_option linter.unusedVariables false
namespace Go.Proofs.Tryz
open Go.Vc Go.RowKit

theorem bc_at {l : List UInt8} {j : Nat} {b : UInt8} (h : l[j]? = some b) : (bc l)[j]? = some (.int .u8 (b.toNat : Int)) := by
  unfold bc; rw [List.getElem?_map, h]; rfl
/-- The writer stands where a value goes. -/
structure At (w0 w : World) (a : Nat) (wx : Addr) (can esc : Bool) (buf : List UInt8) (t : Int) (ms : List Int) : Prop where
  wr : WR w0.heap.size w a wx can esc buf (t :: ms)
  val : t = 5 ∨ t = 4
  one : 1 ≤ ms.length
  deep : ms.length ≤ 900
  len : buf.length ≤ 1000000000
  keep : Keeps w0 w
theorem Fr.keep {w0 w w' : World} (h : Fr w0.heap.size w w') (k : Keeps w0 w) : Keeps w0 w' := Below.trans k h.below
theorem WR.keeps {B : Nat} {w w' : World} {a : Nat} {wx : Addr} {can esc : Bool} {buf : List UInt8} {ms : List Int} (h : WR B w a wx can esc buf ms) (k : Keeps w w') : WR B w' a wx can esc buf ms := by
  obtain ⟨fr, bp, bn, bc, sg, sn, sc, cs, hp, hf⟩ := h
  exact ⟨fr, bp, bn, bc, sg, sn, sc, cs, hp.keeps k, hf⟩
theorem WR.size {B : Nat} {w : World} {a : Nat} {wx : Addr} {can esc : Bool} {buf : List UInt8} {ms : List Int} (h : WR B w a wx can esc buf ms) : B ≤ w.heap.size := by
  obtain ⟨fr, bp, bn, bc, sg, sn, sc, cs, hp, hf⟩ := h
  exact hp.size
theorem Buf.keeps {b : Nat} {l : List UInt8} {w w' : World} (h : Buf b l w) (k : Keeps w w') : Buf b l w' := by
  obtain ⟨h1, v, lr, h2, h3, h4⟩ := h
  refine ⟨h1, v, lr, by rw [Below.block k b (Array.getElem?_eq_some_iff.1 h2).1]; exact h2, ?_, h4⟩
  obtain ⟨p, c, rfl⟩ := slice_of_owns h3
  have ho : Own b w p _ c l := ⟨h3, bc_length l⟩
  exact (ho.keeps k).1

/-- The method returns 'v' and leaves the writer so. -/
def Wrote (k : Nat) (args : List Value) (B : Nat) (w : World) (a : Nat) (wx : Addr) (can esc : Bool) (buf : List UInt8) (ms : List Int) (v : Value) : Prop :=
  Calls prog k ⟨args⟩ w fun e w' => e = .returned v ∧ Fr B w w' ∧ WR B w' a wx can esc buf ms
theorem Wrote.of {k : Nat} {args : List Value} {B : Nat} {w : World} {a : Nat} {wx : Addr} {can esc : Bool} {buf : List UInt8} {ms : List Int} {v : Value}
    (h : Calls prog k ⟨args⟩ w fun e w' => ∃ u, e = .returned u ∧ (u = v ∧ Fr B w w' ∧ WR B w' a wx can esc buf ms)) : Wrote k args B w a wx can esc buf ms v :=
  Calls.mono h fun e w' ⟨u, he, hu, h⟩ => ⟨by rw [he, hu], h⟩
theorem Wrote.go {k : Nat} {args : List Value} {B : Nat} {w : World} {a : Nat} {wx : Addr} {can esc : Bool} {buf : List UInt8} {ms : List Int} {v : Value} (h : Wrote k args B w a wx can esc buf ms v)
    {Q : Ending → World → Prop} (hq : ∀ w', Fr B w w' → WR B w' a wx can esc buf ms → Q (.returned v) w') : Calls prog k ⟨args⟩ w Q :=
  Calls.mono h fun e w' ⟨he, h1, h2⟩ => by rw [he]; exact hq w' h1 h2

section
variable {B : Nat} {w : World} {a : Nat} {wx : Addr} {can esc : Bool} {buf : List UInt8} {ms : List Int}
/-- 'append' from bytes that can be read. -/
theorem put_from {fr : Nat} {bp : Option Addr} {bn bc' sg sn sc : Nat} {cs : List Value} (hp : WRp B w a wx can esc buf ms fr bp bn bc' sg sn sc cs) {q : Option Addr} {m c2 : Nat} {l : List UInt8} (hq : ReadsB w q l) (hm : m = l.length) (hnil : q = none → c2 = 0)
    (hl : buf.length ≤ 2000000000) (hll : l.length ≤ 2000000000) (K : World → Prop)
    (hK : ∀ w' bp' bn' bc', Fr B w w' → WRp B w' a wx can esc (buf ++ l) ms fr bp' bn' bc' sg sn sc cs → K w') :
    ∃ (x29 : Option Addr) (x29_n x29_c : Nat), ∃ w3, BuiltinOk prog .append #[23, 23] 23 [false, false] [.slice bp bn bc', .slice q m c2] w (.slice x29 x29_n x29_c) w3 ∧
      CanStore w3 ((⟨a, 0, none⟩ : Addr).add 1) (.slice x29 x29_n x29_c) ∧ ∀ w4, w4 = w3.setCell ((⟨a, 0, none⟩ : Addr).add 1) (.slice x29 x29_n x29_c) → K w4 := by
  obtain ⟨p', n', c', w3, hr, ho, hg⟩ := append_bytesT hp.own hq hm hnil hp.size (by omega) [false, false]
  obtain ⟨hcan, hset⟩ := hp.set_buf hg ho
  exact ⟨p', n', c', w3, hr, hcan, fun w4 hw4 => hK w4 _ _ _ (hset w4 hw4).2 (hset w4 hw4).1⟩
/-- 'append' of some bytes, one by one. -/
theorem put_lit (h : WR B w a wx can esc buf ms) (hl : buf.length ≤ 2000000000) (bs : List UInt8) {cells : List Value} {k : Nat} (hc : cells = bc bs) (hk : k = bs.length) (hll : bs.length ≤ 2000000000) (K : World → Prop)
    (hK : ∀ w', Fr B w w' → WR B w' a wx can esc (buf ++ bs) ms → K w') :
    ∃ (x25 : Option Addr) (x25_n x25_c : Nat), w.cell? ((⟨a, 0, none⟩ : Addr).add 1) = some (.slice x25 x25_n x25_c) ∧
      ∀ w6, w6 = w.alloc (.cells ⟨cells⟩ 5) →
      ∃ (x27 : Option Addr) (x27_n x27_c : Nat), ∃ w7, BuiltinOk prog .append #[23, 23] 23 [false, false] [.slice x25 x25_n x25_c, .slice (some (⟨w.heap.size, 0, none⟩)) k k] w6 (.slice x27 x27_n x27_c) w7 ∧
      CanStore w7 ((⟨a, 0, none⟩ : Addr).add 1) (.slice x27 x27_n x27_c) ∧ ∀ w8, w8 = w7.setCell ((⟨a, 0, none⟩ : Addr).add 1) (.slice x27 x27_n x27_c) → K w8 := by
  obtain ⟨fr, bp, bn, bc', sg, sn, sc, cs, hp, hf⟩ := h
  refine ⟨_, _, _, hp.c1, fun w6 hw6 => ?_⟩
  obtain ⟨p', n', c', w7, hr, ho, hg⟩ := append_litT hp.own hp.size hw6 hc hk (by omega) [false, false]
  obtain ⟨hcan, hset⟩ := hp.set_buf hg ho
  exact ⟨p', n', c', w7, hr, hcan, fun w8 hw8 => hK w8 (hset w8 hw8).2 ⟨_, _, _, _, _, _, _, _, (hset w8 hw8).1, hf⟩⟩
/-- 'append' of a string's bytes. -/
theorem put_str (h : WR B w a wx can esc buf ms) (hl : buf.length ≤ 2000000000) (s : List UInt8) (hll : s.length ≤ 2000000000) (K : World → Prop)
    (hK : ∀ w', Fr B w w' → WR B w' a wx can esc (buf ++ s) ms → K w') :
    ∃ (x26 : Option Addr) (x26_n x26_c : Nat), w.cell? ((⟨a, 0, none⟩ : Addr).add 1) = some (.slice x26 x26_n x26_c) ∧
      ∃ (x28 : Option Addr) (x28_n x28_c : Nat), ∃ w2, (convert 9 23 (.string (mkS s))).run prog w = .ok (.slice x28 x28_n x28_c) w2 ∧
      ∃ (x29 : Option Addr) (x29_n x29_c : Nat), ∃ w3, BuiltinOk prog .append #[23, 23] 23 [false, false] [.slice x26 x26_n x26_c, .slice x28 x28_n x28_c] w2 (.slice x29 x29_n x29_c) w3 ∧
      CanStore w3 ((⟨a, 0, none⟩ : Addr).add 1) (.slice x29 x29_n x29_c) ∧ ∀ w4, w4 = w3.setCell ((⟨a, 0, none⟩ : Addr).add 1) (.slice x29 x29_n x29_c) → K w4 := by
  obtain ⟨fr, bp, bn, bc', sg, sn, sc, cs, hp, hf⟩ := h
  obtain ⟨c, w2, hr2, hc, hk2, _, hrd, _⟩ := conv_bytes w s
  refine ⟨_, _, _, hp.c1, _, _, _, w2, hr2, ?_⟩
  exact put_from (hp.keeps hk2) hrd rfl (fun e => by cases e) hl hll K fun w' bp' bn' bc'' hf' hp' => hK w' ((hk2.fr hp.size).trans hf') ⟨_, _, _, _, _, _, _, _, hp', hf⟩
/-- 'append' of a buffer's bytes. -/
theorem put_buf (h : WR B w a wx can esc buf ms) (hl : buf.length ≤ 2000000000) {b : Nat} {l : List UInt8} (hb : Buf b l w) (hll : l.length ≤ 2000000000) (K : World → Prop)
    (hK : ∀ w', Fr B w w' → WR B w' a wx can esc (buf ++ l) ms → K w') :
    ∃ f : List (Addr × Value), Kept w f ∧
      ∃ (x22 : Option Addr) (x22_n x22_c : Nat), (((⟨a, 0, none⟩ : Addr).add 1), .slice x22 x22_n x22_c) ∈ f ∧
      Calls prog 177 ⟨[.pointer (some ⟨b, 0, none⟩)]⟩ w.drew fun e w4 => ∃ (x23 : Option Addr) (x23_n x23_c : Nat), e = .returned (.slice x23 x23_n x23_c) ∧
      Kept w4 f ∧ ∃ (x24 : Option Addr) (x24_n x24_c : Nat), ∃ w5, BuiltinOk prog .append #[23, 23] 23 [false, false] [.slice x22 x22_n x22_c, .slice x23 x23_n x23_c] w4 (.slice x24 x24_n x24_c) w5 ∧
      CanStore w5 ((⟨a, 0, none⟩ : Addr).add 1) (.slice x24 x24_n x24_c) ∧ ∀ w6, w6 = w5.setCell ((⟨a, 0, none⟩ : Addr).add 1) (.slice x24 x24_n x24_c) → K w6 := by
  obtain ⟨fr, bp, bn, bc', sg, sn, sc, cs, hp, hf⟩ := h
  have kd : Keeps w w.drew := (Keeps.refl w).drew
  have kept : ∀ w', Keeps w w' → Kept w' [(((⟨a, 0, none⟩ : Addr).add 1), .slice bp bn bc')] := fun w' k => (hp.keeps k).c1
  refine ⟨_, kept w (Keeps.refl w), _, _, _, List.mem_singleton.2 rfl, (hb.keeps kd).bytes.mono ?_⟩
  rintro e w4 ⟨p, n, c, rfl, hn, hrd, hnil, hk4⟩
  have hk := kd.trans hk4
  refine ⟨p, n, c, rfl, kept w4 hk, ?_⟩
  exact put_from (hp.keeps hk) hrd hn hnil hl hll K fun w' bp' bn' bc'' hf' hp' => hK w' ((hk.fr hp.size).trans hf') ⟨_, _, _, _, _, _, _, _, hp', hf⟩
end

theorem ret232 {B : Nat} {w : World} {a : Nat} {wx : Addr} {can esc : Bool} {buf : List UInt8} {ms : List Int} (h : WR B w a wx can esc buf ms) (hl : buf.length ≤ 2000000000) (key value : List UInt8) (q : Bool) (h1 : key.length ≤ 1000000) (h2 : value.length ≤ 1000000000) :
    Wrote 232 [.pointer (some ⟨a, 0, none⟩), .string (mkS key), .string (mkS value), .bool q] B w a wx can esc (buf ++ wrapF (36 :: key) (if q then 34 :: (value ++ [34]) else value)) ms (.tuple ⟨[]⟩) := by
  refine Wrote.of (c232 _ _ _ _ w _ ?_)
  unfold VC232
  intro Kx hK
  have key : ∀ s, s = wrapF (36 :: key) (if q then 34 :: (value ++ [34]) else value) → s.length ≤ 2000000000 → Kx s w := by
    intro s hs hsl
    refine hK s w (put_str h hl s hsl _ fun w' hf hw => ⟨rfl, hf, ?_⟩)
    rw [← hs]; exact hw
  refine ⟨fun hq => ⟨?_, ?_, ?_, ?_, key _ ?_ ?_⟩, fun hq => ⟨?_, ?_, ?_, ?_, key _ ?_ ?_⟩⟩
  all_goals first | (simp only [List.length_append, List.length_cons, List.length_nil]; omega) | (rw [hq]; simp [wrapF])

section
variable {w0 w : World} {a : Nat} {wx : Addr} {can esc : Bool} {buf : List UInt8} {t : Int} {ms : List Int}
theorem At.chk (h : At w0 w a wx can esc buf t ms) (d : Int) (name : List UInt8) (p : Option Addr) (n c : Nat) {Q : Ending → World → Prop}
    (hq : ∀ w', Keeps w w' → At w0 w' a wx can esc buf t ms → Q (.returned .nilIface) w') : Calls prog 68 ⟨[.pointer (some ⟨a, 0, none⟩), .int .i64 d, .string (mkS name), .slice p n c]⟩ w Q :=
  (ret68 h.wr h.val d name p n c).go fun w' hk => hq w' hk ⟨h.wr.keeps hk, h.val, h.one, h.deep, h.len, h.keep.trans hk⟩
theorem At.size (h : At w0 w a wx can esc buf t ms) : w0.heap.size ≤ w.heap.size := h.wr.size
theorem At.keeps {w' : World} (h : At w0 w a wx can esc buf t ms) (k : Keeps w w') : At w0 w' a wx can esc buf t ms := ⟨h.wr.keeps k, h.val, h.one, h.deep, h.len, h.keep.trans k⟩
/-- The value's mode is taken off. -/
theorem fin_pop (h : At w0 w a wx can esc buf t ms) {w' : World} {buf' : List UInt8} (hf : Fr w0.heap.size w w') (hw : WR w0.heap.size w' a wx can esc buf' (t :: ms)) {R : World → Prop}
    (hR : ∀ w'', Fr w0.heap.size w w'' → WR w0.heap.size w'' a wx can esc buf' ms → R w'') :
    Calls prog 132 ⟨[.pointer (some ⟨a, 0, none⟩)]⟩ w' fun e w9 => e = .returned (.tuple ⟨[]⟩) ∧ R w9 := by
  have hd := h.deep
  exact (ret132a hw h.val h.one (by omega)).mono fun e w9 ⟨he, hf9, hw9⟩ => ⟨he, hR w9 (hf.trans hf9) hw9⟩
/-- A comma, and the value's mode is taken off. -/
theorem fin_comma (h : At w0 w a wx can esc buf t ms) {w' : World} {buf' : List UInt8} (hf : Fr w0.heap.size w w') (hw : WR w0.heap.size w' a wx can esc buf' (t :: ms)) (hl : buf'.length ≤ 2000000000) {R : World → Prop}
    (hR : ∀ w'', Fr w0.heap.size w w'' → WR w0.heap.size w'' a wx can esc (buf' ++ [44]) ms → R w'') :
    ∃ (x25 : Option Addr) (x25_n x25_c : Nat), w'.cell? ((⟨a, 0, none⟩ : Addr).add 1) = some (.slice x25 x25_n x25_c) ∧
      ∀ w6, w6 = w'.alloc (.cells ⟨[.int .u8 44]⟩ 5) →
      ∃ (x27 : Option Addr) (x27_n x27_c : Nat), ∃ w7, BuiltinOk prog .append #[23, 23] 23 [false, false] [.slice x25 x25_n x25_c, .slice (some (⟨w'.heap.size, 0, none⟩)) 1 1] w6 (.slice x27 x27_n x27_c) w7 ∧
      CanStore w7 ((⟨a, 0, none⟩ : Addr).add 1) (.slice x27 x27_n x27_c) ∧ ∀ w8, w8 = w7.setCell ((⟨a, 0, none⟩ : Addr).add 1) (.slice x27 x27_n x27_c) →
      Calls prog 132 ⟨[.pointer (some ⟨a, 0, none⟩)]⟩ w8 fun e w9 => e = .returned (.tuple ⟨[]⟩) ∧ R w9 :=
  put_lit hw hl [44] rfl rfl (by decide) _ fun w8 hf8 hw8 => fin_pop h (hf.trans hf8) hw8 hR
end

/-- A buffer of one's own behind the writer's. -/
theorem new_buf {w w2 : World} (hw : w2 = w.alloc (.cells ⟨[.slice none 0 0, .int .i64 0, .int .i8 0]⟩ 69)) : Keeps w w2 ∧ Buf w.heap.size [] w2 := by
  rw [hw]; exact ⟨(Keeps.refl w).alloc _, Buf.new w⟩
/-- What a value's method leaves. -/
abbrev Put (k : Nat) (args : List Value) (w0 w : World) (a : Nat) (wx : Addr) (can esc : Bool) (buf : List UInt8) (ms : List Int) (out : List UInt8) : Prop :=
  Wrote k (.pointer (some ⟨a, 0, none⟩) :: args) w0.heap.size w a wx can esc (buf ++ out ++ [44]) ms .nilIface

section
variable {w0 w : World} {a : Nat} {wx : Addr} {can esc : Bool} {buf : List UInt8} {t : Int} {ms : List Int}
theorem ret181 (h : At w0 w a wx can esc buf t ms) : Put 181 [] w0 w a wx can esc buf ms (wrapF [36, 117, 110, 100, 101, 102, 105, 110, 101, 100] [116, 114, 117, 101]) := by
  have hl := h.len
  refine Wrote.of (c181 _ w _ ?_)
  unfold VC181
  refine h.chk _ _ _ _ _ fun w1 hk1 h1 => ⟨rfl, (ret232 h1.wr (by omega) _ _ _ (by decide) (by decide)).go fun w2 hf2 hw2 => ⟨rfl, fin_comma h ((hk1.fr h.size).trans hf2) hw2 (by simp [wrapF]; omega) fun w'' hf hw => ⟨rfl, hf, hw⟩⟩⟩
theorem ret196 (h : At w0 w a wx can esc buf t ms) : Put 196 [] w0 w a wx can esc buf ms (wrapF [36, 109, 105, 110, 75, 101, 121] [49]) := by
  have hl := h.len
  refine Wrote.of (c196 _ w _ ?_)
  unfold VC196
  refine h.chk _ _ _ _ _ fun w1 hk1 h1 => ⟨rfl, (ret232 h1.wr (by omega) _ _ _ (by decide) (by decide)).go fun w2 hf2 hw2 => ⟨rfl, fin_comma h ((hk1.fr h.size).trans hf2) hw2 (by simp [wrapF]; omega) fun w'' hf hw => ⟨rfl, hf, hw⟩⟩⟩
theorem ret197 (h : At w0 w a wx can esc buf t ms) : Put 197 [] w0 w a wx can esc buf ms (wrapF [36, 109, 97, 120, 75, 101, 121] [49]) := by
  have hl := h.len
  refine Wrote.of (c197 _ w _ ?_)
  unfold VC197
  refine h.chk _ _ _ _ _ fun w1 hk1 h1 => ⟨rfl, (ret232 h1.wr (by omega) _ _ _ (by decide) (by decide)).go fun w2 hf2 hw2 => ⟨rfl, fin_comma h ((hk1.fr h.size).trans hf2) hw2 (by simp [wrapF]; omega) fun w'' hf hw => ⟨rfl, hf, hw⟩⟩⟩
theorem ret193 (h : At w0 w a wx can esc buf t ms) (T : Tabs w0) (n : Int) (h0 : -9223372036854775808 ≤ n) (h9 : n ≤ 9223372036854775807) (hc : can = true) : Put 193 [.int .i64 n] w0 w a wx can esc buf ms (wrapF [36, 110, 117, 109, 98, 101, 114, 76, 111, 110, 103] ([34] ++ decNum n ++ [34])) := by
  have hl := h.len
  have hn := decNum_len' n h0 h9
  refine Wrote.of (c193 _ _ w _ ?_)
  unfold VC193
  refine h.chk _ _ _ _ _ fun w1 hk1 h1 => ⟨rfl, (ret34 n h0 h9 w1 (T.keeps h1.keep).pow).go fun w2 hk2 => ⟨_, rfl, ?_⟩⟩
  have h2 := h1.keeps hk2
  intro Kx hK
  obtain ⟨fr, bp, bn, bc', sg, sn, sc, cs, hp, hf⟩ := h2.wr
  refine ⟨can, hp.c4, fun _ => (ret232 h2.wr (by omega) _ _ _ (by decide) (by omega)).go fun w3 hf3 hw3 => ⟨rfl, hK w3 (fin_comma h (((hk1.trans hk2).fr h.size).trans hf3) hw3 (by simp [wrapF]; omega) fun w'' hf hw => ⟨rfl, hf, ?_⟩)⟩, fun h => by rw [hc] at h; cases h⟩
  simpa using hw
theorem ret191 (h : At w0 w a wx can esc buf t ms) (T : Tabs w0) (n : Int) (h0 : -2147483648 ≤ n) (h9 : n ≤ 2147483647) (hc : can = true) : Put 191 [.int .i32 n] w0 w a wx can esc buf ms (wrapF [36, 110, 117, 109, 98, 101, 114, 73, 110, 116] ([34] ++ decNum n ++ [34])) := by
  have hl := h.len
  have hn := decNum_len' n (by omega) (by omega)
  refine Wrote.of (c191 _ _ w _ ?_)
  unfold VC191
  refine h.chk _ _ _ _ _ fun w1 hk1 h1 => ⟨rfl, n, i64w (by omega) (by omega), (ret34 n (by omega) (by omega) w1 (T.keeps h1.keep).pow).go fun w2 hk2 => ⟨_, rfl, ?_⟩⟩
  have h2 := h1.keeps hk2
  intro Kx hK
  obtain ⟨fr, bp, bn, bc', sg, sn, sc, cs, hp, hf⟩ := h2.wr
  refine ⟨can, hp.c4, fun _ => (ret232 h2.wr (by omega) _ _ _ (by decide) (by omega)).go fun w3 hf3 hw3 => ⟨rfl, hK w3 (fin_comma h (((hk1.trans hk2).fr h.size).trans hf3) hw3 (by simp [wrapF]; omega) fun w'' hf hw => ⟨rfl, hf, ?_⟩)⟩, fun h => by rw [hc] at h; cases h⟩
  simpa using hw
theorem ret185 (h : At w0 w a wx can esc buf t ms) (T : Tabs w0) (n : Int) (h0 : -9223372036854775808 ≤ n) (h9 : n ≤ 9223372036854775807) : Put 185 [.int .i64 n] w0 w a wx can esc buf ms (wrapF [36, 100, 97, 116, 101] ([123, 34, 36, 110, 117, 109, 98, 101, 114, 76, 111, 110, 103, 34, 58, 34] ++ decNum n ++ [34, 125])) := by
  have hl := h.len
  have hn := decNum_len' n h0 h9
  refine Wrote.of (c185 _ _ w _ ?_)
  unfold VC185
  refine h.chk _ _ _ _ _ fun w1 hk1 h1 => ⟨rfl, (ret34 n h0 h9 w1 (T.keeps h1.keep).pow).go fun w2 hk2 => ⟨_, rfl, by simp; omega, by simp; omega, ?_⟩⟩
  have h2 := h1.keeps hk2
  exact (ret232 h2.wr (by omega) _ _ _ (by decide) (by simp; omega)).go fun w3 hf3 hw3 => ⟨rfl, fin_comma h (((hk1.trans hk2).fr h.size).trans hf3) hw3 (by simp [wrapF]; omega) fun w'' hf hw => ⟨rfl, hf, hw⟩⟩
end

theorem ret94 (b : Bool) (w : World) : Ret 94 [.bool b] w (.string (mkS (if b then [116, 114, 117, 101] else [102, 97, 108, 115, 101]))) := by
  have h154 : Ret 154 [.bool b] w (.string (mkS (if b then [116, 114, 117, 101] else [102, 97, 108, 115, 101]))) := by
    refine Ret.of (c154 b w _ ?_)
    unfold VC154
    exact ⟨fun h => by rw [h]; exact ⟨rfl, Keeps.refl _⟩, fun h => by rw [h]; exact ⟨rfl, Keeps.refl _⟩⟩
  exact Ret.of (c94 b w _ (h154.go fun w1 hk1 => ⟨_, rfl, rfl, hk1⟩))

section
variable {w0 w : World} {a : Nat} {wx : Addr} {can esc : Bool} {buf : List UInt8} {t : Int} {ms : List Int}
theorem ret186 (h : At w0 w a wx can esc buf t ms) : Put 186 [] w0 w a wx can esc buf ms [110, 117, 108, 108] := by
  have hl := h.len
  refine Wrote.of (c186 _ w _ ?_)
  unfold VC186
  refine h.chk _ _ _ _ _ fun w1 hk1 h1 => ⟨rfl, ?_⟩
  obtain ⟨fr, bp, bn, bc', sg, sn, sc, cs, hp, hf⟩ := h1.wr
  refine ⟨_, _, _, hp.c1, fun w2 hw2 => ⟨some ⟨w1.heap.size, 0, none⟩, 4, 4, w1.alloc (.cells ⟨bc [110, 117, 108, 108]⟩ 5 (4, 5)), by rw [hw2]; exact Lib.run_convert_bytes_const w1 23 5 ⟨bc [110, 117, 108, 108]⟩ 4 4 u23 u5, ?_⟩⟩
  have hk3 : Keeps w1 (w1.alloc (.cells ⟨bc [110, 117, 108, 108]⟩ 5 (4, 5))) := (Keeps.refl w1).alloc _
  have hrd : ReadsB (w1.alloc (.cells ⟨bc [110, 117, 108, 108]⟩ 5 (4, 5))) (some ⟨w1.heap.size, 0, none⟩) [110, 117, 108, 108] := by
    intro j x hj
    refine ⟨_, rfl, ?_⟩
    rw [add_at, World.cell?_alloc_mark]
    simpa using bc_at hj
  exact put_from (hp.keeps hk3) hrd rfl (fun e => by cases e) (by omega) (by decide) _ fun w' bp' bn' bc'' hf' hp' => fin_comma h (((hk1.trans hk3).fr h.size).trans hf') ⟨_, _, _, _, _, _, _, _, hp', hf⟩ (by simp only [List.length_append, List.length_cons, List.length_nil]; omega) fun w'' hf hw => ⟨rfl, hf, hw⟩
theorem ret184 (h : At w0 w a wx can esc buf t ms) (b : Bool) : Put 184 [.bool b] w0 w a wx can esc buf ms (if b then [116, 114, 117, 101] else [102, 97, 108, 115, 101]) := by
  have hl := h.len
  have hbl : (if b then [116, 114, 117, 101] else [102, 97, 108, 115, 101] : List UInt8).length ≤ 5 := by cases b <;> decide
  refine Wrote.of (c184 _ _ w _ ?_)
  unfold VC184
  refine h.chk _ _ _ _ _ fun w1 hk1 h1 => ⟨rfl, ?_⟩
  obtain ⟨fr, bp, bn, bc', sg, sn, sc, cs, hp, hf⟩ := h1.wr
  have kept : ∀ w', Keeps w1 w' → Kept w' [(((⟨a, 0, none⟩ : Addr).add 1), .slice bp bn bc')] := fun w' k => (hp.keeps k).c1
  refine ⟨_, kept w1 (Keeps.refl _), _, _, _, List.mem_singleton.2 rfl, (ret94 b w1.drew).go fun w2 hk2 => ⟨_, rfl, kept w2 ((Keeps.refl w1).drew.trans hk2), ?_⟩⟩
  have hk2' := (Keeps.refl w1).drew.trans hk2
  obtain ⟨c, w3, hr3, hc, hk3, _, hrd, _⟩ := conv_bytes w2 (if b then [116, 114, 117, 101] else [102, 97, 108, 115, 101])
  have hk3' := hk2'.trans hk3
  refine ⟨_, _, _, w3, hr3, kept w3 hk3', ?_⟩
  exact put_from (hp.keeps hk3') hrd rfl (fun e => by cases e) (by omega) (by omega) _ fun w' bp' bn' bc'' hf' hp' => fin_comma h (((hk1.trans hk3').fr h.size).trans hf') ⟨_, _, _, _, _, _, _, _, hp', hf⟩ (by simp only [List.length_append]; omega) fun w'' hf hw => ⟨rfl, hf, hw⟩
theorem buf_esc (h : At w0 w a wx can esc buf t ms) : w.cell? ((⟨a, 0, none⟩ : Addr).add 5) = some (.bool esc) := by
  obtain ⟨fr, bp, bn, bc', sg, sn, sc, cs, hp, hf⟩ := h.wr
  exact hp.c5
theorem ret179 (h : At w0 w a wx can esc buf t ms) (T : Tabs w0) (E : Esc w0) (s : List UInt8) (hu : utf8F s = true) (hs : s.length ≤ 300) : Put 179 [.string (mkS s)] w0 w a wx can esc buf ms (strF esc s) := by
  have hl := h.len
  have hsl := strF_len esc s
  refine Wrote.of (c179 _ _ w _ ?_)
  unfold VC179
  refine h.chk _ _ _ _ _ fun w1 hk1 h1 => ⟨rfl, fun w2 hw2 => ?_⟩
  obtain ⟨hk2, hb2⟩ := new_buf hw2
  have h2 := h1.keeps hk2
  have h15 := T.size
  have hs1 := h1.size
  refine ⟨esc, buf_esc h2, (ret125 s w1.heap.size esc [] w2 hu (by omega) (by simp) hb2 (E.keeps h2.keep) (by omega)).mono ?_⟩
  rintro e w3 ⟨rfl, hb3, hk3⟩
  have hk13 : Keeps w1 w3 := Below.trans hk2 hk3
  have h3 := h1.keeps hk13
  refine ⟨rfl, put_buf h3.wr (by omega) hb3 (by simp; omega) _ fun w6 hf6 hw6 => ?_⟩
  exact fin_comma h (((hk1.trans hk13).fr h.size).trans hf6) hw6 (by simp; omega) fun w'' hf hw => ⟨rfl, hf, hw⟩
theorem ret189 (h : At w0 w a wx can esc buf t ms) (T : Tabs w0) (E : Esc w0) (s : List UInt8) (hu : utf8F s = true) (hs : s.length ≤ 300) : Put 189 [.string (mkS s)] w0 w a wx can esc buf ms (wrapF [36, 99, 111, 100, 101] (strF esc s)) := by
  have hl := h.len
  have hsl := strF_len esc s
  refine Wrote.of (c189 _ _ w _ ?_)
  unfold VC189
  refine h.chk _ _ _ _ _ fun w1 hk1 h1 => ⟨rfl, fun w2 hw2 => ?_⟩
  obtain ⟨hk2, hb2⟩ := new_buf hw2
  have h2 := h1.keeps hk2
  have h15 := T.size
  have hs1 := h1.size
  refine ⟨esc, buf_esc h2, (ret125 s w1.heap.size esc [] w2 hu (by omega) (by simp) hb2 (E.keeps h2.keep) (by omega)).mono ?_⟩
  rintro e w3 ⟨rfl, hb3, hk3⟩
  have hk13 : Keeps w1 w3 := Below.trans hk2 hk3
  refine ⟨rfl, hb3.out.go fun w4 hk4 => ⟨_, rfl, ?_⟩⟩
  have h4 := h1.keeps (hk13.trans hk4)
  refine (ret232 h4.wr (by omega) _ _ _ (by decide) (by simp; omega)).go fun w5 hf5 hw5 => ⟨rfl, ?_⟩
  exact fin_comma h (((hk1.trans (hk13.trans hk4)).fr h.size).trans hf5) hw5 (by simp [wrapF]; omega) fun w'' hf hw => ⟨rfl, hf, hw⟩
theorem ret190 (h : At w0 w a wx can esc buf t ms) (T : Tabs w0) (E : Esc w0) (s : List UInt8) (hu : utf8F s = true) (hs : s.length ≤ 300) : Put 190 [.string (mkS s)] w0 w a wx can esc buf ms (wrapF [36, 115, 121, 109, 98, 111, 108] (strF esc s)) := by
  have hl := h.len
  have hsl := strF_len esc s
  refine Wrote.of (c190 _ _ w _ ?_)
  unfold VC190
  refine h.chk _ _ _ _ _ fun w1 hk1 h1 => ⟨rfl, fun w2 hw2 => ?_⟩
  obtain ⟨hk2, hb2⟩ := new_buf hw2
  have h2 := h1.keeps hk2
  have h15 := T.size
  have hs1 := h1.size
  refine ⟨esc, buf_esc h2, (ret125 s w1.heap.size esc [] w2 hu (by omega) (by simp) hb2 (E.keeps h2.keep) (by omega)).mono ?_⟩
  rintro e w3 ⟨rfl, hb3, hk3⟩
  have hk13 : Keeps w1 w3 := Below.trans hk2 hk3
  refine ⟨rfl, hb3.out.go fun w4 hk4 => ⟨_, rfl, ?_⟩⟩
  have h4 := h1.keeps (hk13.trans hk4)
  refine (ret232 h4.wr (by omega) _ _ _ (by decide) (by simp; omega)).go fun w5 hf5 hw5 => ⟨rfl, ?_⟩
  exact fin_comma h (((hk1.trans (hk13.trans hk4)).fr h.size).trans hf5) hw5 (by simp [wrapF]; omega) fun w'' hf hw => ⟨rfl, hf, hw⟩
end
/-- Something more is written into a buffer of one's own, while what was there before stays. -/
theorem buf_str {w1 w : World} {b : Nat} {l : List UInt8} (hk : Keeps w1 w) (hb : Buf b l w) (h1 : w1.heap.size ≤ b) (s : List UInt8) (hl : l.length + s.length ≤ 1099511627776) {Q : Ending → World → Prop}
    (hq : ∀ w' n, Keeps w1 w' → Buf b (l ++ s) w' → Q (.returned (.tuple ⟨[.int .i64 n, .nilIface]⟩)) w') : Calls prog 141 ⟨[.pointer (some ⟨b, 0, none⟩), .string (mkS s)]⟩ w Q :=
  (hb.str s hl).mono fun e w' ⟨he, hb', hk'⟩ => by rw [he]; exact hq w' _ (Below.trans hk (Below.mono hk' h1)) hb'
section
variable {w0 w : World} {a : Nat} {wx : Addr} {can esc : Bool} {buf : List UInt8} {t : Int} {ms : List Int}
theorem ret192 (h : At w0 w a wx can esc buf t ms) (T : Tabs w0) (x y : Nat) (hx : x < 4294967296) (hy : y < 4294967296) : Put 192 [.int .u32 (x : Int), .int .u32 (y : Int)] w0 w a wx can esc buf ms
    (wrapF [36, 116, 105, 109, 101, 115, 116, 97, 109, 112] ([123, 34, 116, 34, 58] ++ decF x ++ [44, 34, 105, 34, 58] ++ decF y ++ [125])) := by
  have hl := h.len
  have hxl := decF_len64 x (by omega)
  have hyl := decF_len64 y (by omega)
  refine Wrote.of (c192 _ _ _ w _ ?_)
  unfold VC192
  refine h.chk _ _ _ _ _ fun w1 hk1 h1 => ⟨rfl, fun w2 hw2 => ?_⟩
  obtain ⟨hk2, hb2⟩ := new_buf hw2
  refine buf_str hk2 hb2 (Nat.le_refl _) _ (by simp) fun w3 n3 hk3 hb3 => ⟨n3, rfl, (x : Int), u64w (by omega) (by omega), ?_⟩
  refine (ret36 x (by omega) w3 (T.keeps (h1.keep.trans hk3)).pow).go fun w4 hk4 => ⟨_, rfl, ?_⟩
  refine buf_str (hk3.trans hk4) (hb3.keeps hk4) (Nat.le_refl _) _ (by simp; omega) fun w5 n5 hk5 hb5 => ⟨n5, rfl, ?_⟩
  refine buf_str hk5 hb5 (Nat.le_refl _) _ (by simp; omega) fun w6 n6 hk6 hb6 => ⟨n6, rfl, (y : Int), u64w (by omega) (by omega), ?_⟩
  refine (ret36 y (by omega) w6 (T.keeps (h1.keep.trans hk6)).pow).go fun w7 hk7 => ⟨_, rfl, ?_⟩
  refine buf_str (hk6.trans hk7) (hb6.keeps hk7) (Nat.le_refl _) _ (by simp; omega) fun w8 n8 hk8 hb8 => ⟨n8, rfl, ?_⟩
  refine buf_str hk8 hb8 (Nat.le_refl _) _ (by simp; omega) fun w9 n9 hk9 hb9 => ⟨n9, rfl, ?_⟩
  have h9 := h1.keeps hk9
  refine put_buf h9.wr (by omega) hb9 (by simp; omega) _ fun w12 hf12 hw12 => ?_
  refine fin_pop h (((hk1.trans hk9).fr h.size).trans hf12) hw12 fun w'' hf hw => ⟨rfl, hf, ?_⟩
  simpa [wrapF, List.append_assoc] using hw
end
end Go.Proofs.Tryz
/- The writer's helpers: the letters of a text in order (they are). -/
set_option linter.unusedVariables false
namespace Go.Proofs.Tryz
open Go.Vc Go.RowKit Go.Sort

def enc8 (b : UInt8) : Value := .int .i32 (b.toNat : Int)
def lt8 (a b : UInt8) : Bool := decide ((a.toNat : Int) < (b.toNat : Int))
theorem swo8 : SWO lt8 := ⟨fun x => by simp [lt8], fun x y z h1 h2 => by simp [lt8] at *; omega, fun x y z h1 h2 => by simp [lt8] at *; omega⟩
theorem u223 : prog.underlying 223 = some (.slice 21) := by kernel_rfl
theorem u21 : prog.underlying 21 = some (.int .i32) := by kernel_rfl

theorem runes_ascii (s : List UInt8) (ha : ∀ b ∈ s, b.toNat < 128) : ∀ (bound i : Nat) (acc : Array Value), s.length ≤ i + bound → Conv.runesFrom (mkS s) bound i acc = acc ++ ((s.drop i).map enc8).toArray
  | 0, i, acc, h => by
    rw [List.drop_eq_nil_of_le (by omega)]
    simp [Conv.runesFrom]
  | bound + 1, i, acc, h => by
    unfold Conv.runesFrom
    have hsz : (mkS s).size = s.length := rfl
    by_cases hi : i < s.length
    · rw [if_pos (by rw [hsz]; exact hi)]
      obtain ⟨b, hb⟩ : ∃ b, s[i]? = some b := ⟨_, List.getElem?_eq_getElem hi⟩
      have hd := decode_one s i b hb (ha b (List.mem_of_getElem? hb))
      rw [hd]
      simp only []
      rw [runes_ascii s ha bound (i + 1) _ (by omega), drop_cons hb]
      simp [enc8]
    · rw [if_neg (by rw [hsz]; exact hi), List.drop_eq_nil_of_le (by omega)]
      simp
theorem ba_toList (x : ByteArray) : mkS x.data.toList = x := rfl
theorem runes_back : ∀ (l : List UInt8) (acc : ByteArray), (∀ b ∈ l, b.toNat < 128) → (l.map fun b => (b.toNat : Int)).foldl (fun r n => r ++ Utf8.encode n) acc = mkS (acc.data.toList ++ l)
  | [], acc, h => by simp [mkS_eta]
  | b :: l, acc, h => by
    have hb := h b (by simp)
    have he : Utf8.encode (b.toNat : Int) = mkS [b] := by
      unfold Utf8.encode
      have hv : Utf8.valid (b.toNat : Int) = true := by unfold Utf8.valid; simp; omega
      rw [hv]
      simp only [if_true, Int.toNat_natCast]
      rw [if_pos (by omega)]
      have : UInt8.ofNat b.toNat = b := by simp
      rw [this]; rfl
    rw [List.map_cons, List.foldl_cons, he, runes_back l _ (fun x hx => h x (by simp [hx]))]
    have h2 : acc ++ mkS [b] = mkS (acc.data.toList ++ (mkS [b]).data.toList) := mkS_ext (by rw [mkS_data]; simp)
    rw [h2, mkS_data, mkS_data, List.append_assoc]; rfl

theorem calls_q {k : Nat} {args : List Value} {w : World} {Q : Ending → World → Prop} {R : Value → World → Prop} (h : Calls prog k ⟨args⟩ w fun e w' => ∃ v, e = .returned v ∧ R v w') (hq : ∀ v w', R v w' → Q (.returned v) w') : Calls prog k ⟨args⟩ w Q :=
  Calls.mono h fun e w' ⟨v, he, hr⟩ => by rw [he]; exact hq v w' hr

theorem pairwise_of_sortedB : ∀ (s : List UInt8), sortedB s → s.Pairwise fun a b => a.toNat ≤ b.toNat
  | [], _ => List.Pairwise.nil
  | [a], _ => by simp
  | a :: b :: r, h => by
    have h1 : a.toNat ≤ b.toNat := h 0 a b rfl rfl
    have ih := pairwise_of_sortedB (b :: r) (fun i x y hx hy => h (i + 1) x y (by simpa using hx) (by simpa using hy))
    rw [List.pairwise_cons]
    refine ⟨fun y hy => ?_, ih⟩
    rcases List.mem_cons.1 hy with rfl | hy
    · exact h1
    · exact Nat.le_trans h1 ((List.pairwise_cons.1 ih).1 y hy)

theorem reach343 (rv : Value) : Reaches prog 343 rv "Len" 328 ∧ Reaches prog 343 rv "Less" 329 ∧ Reaches prog 343 rv "Swap" 330 :=
  ⟨⟨fun w => by kernel_rfl, fun a w => enters_spec (by kernel_rfl) a w⟩, ⟨fun w => by kernel_rfl, fun a w => enters_spec (by kernel_rfl) a w⟩, ⟨fun w => by kernel_rfl, fun a w => enters_spec (by kernel_rfl) a w⟩⟩
theorem lenM343 (g n c : Nat) (w : World) : LenM prog 328 (.slice (some ⟨g, 0, none⟩) n c) n w := by
  unfold LenM
  refine calls_q (c328 _ n c w (fun v w' => v = .int .i64 (n : Int) ∧ w' = w) ⟨rfl, rfl⟩) ?_
  rintro v w' ⟨rfl, rfl⟩
  exact ⟨rfl, 0, rfl⟩
theorem get8 {d : Array UInt8} {w : World} {g : Nat} (h : Holds enc8 w g 0 d) (i : Nat) (hi : i < d.size) : w.cell? ((⟨g, 0, none⟩ : Addr).add (((i : Nat) : Int).toNat * 1)) = some (.int .i32 ((d[i]!).toNat : Int)) ∧ w.frozen? ⟨g, 0 + i, none⟩ = false := by
  rw [add_at, Nat.mul_one, Int.toNat_natCast]
  exact h i hi
theorem lessM343 (g c : Nat) (d : Array UInt8) (w : World) (hH : Holds enc8 w g 0 d) (hg : g < w.heap.size) (hs : d.size ≤ 1000) : LessM prog 329 (.slice (some ⟨g, 0, none⟩) d.size c) enc8 lt8 g 0 d.size w := by
  intro m os dk hdk i j hi hj
  have hh := holds_sortWorld enc8 w g 0 m d dk os hg hH hdk
  generalize sortWorld enc8 w g 0 m dk os = W at *
  refine calls_q (c329 _ d.size c i j W (fun v w' => v = .bool (lt8 dk[i]! dk[j]!) ∧ w' = W.drew) ?_) ?_
  · unfold VC329
    exact ⟨⟨by omega, by omega⟩, _, rfl, _, (get8 hh i (by omega)).1, ⟨by omega, by omega⟩, _, rfl, _, (get8 hh j (by omega)).1, rfl, rfl⟩
  · rintro v w' ⟨rfl, rfl⟩
    exact ⟨rfl, 1, rfl⟩
theorem swapM343 (g c n : Nat) (hn : n ≤ 1000) : SwapM prog 330 (.slice (some ⟨g, 0, none⟩) n c) enc8 g 0 n := by
  intro W dk hh hdk i j hi hj
  have ci := get8 hh i (by omega)
  have cj := get8 hh j (by omega)
  have can : ∀ (W' : World) (k : Nat) (v u : Value), W'.cell? ⟨g, 0 + k, none⟩ = some u → W'.frozen? ⟨g, 0 + k, none⟩ = false → v.oneCell' = true → CanStore W' ((⟨g, 0, none⟩ : Addr).add (((k : Nat) : Int).toNat * 1)) v := by
    intro W' k v u h1 h2 h3
    rw [add_at, Nat.mul_one, Int.toNat_natCast]
    exact ⟨by rw [h1]; rfl, h2, h3⟩
  refine calls_q (c330 _ n c i j W (fun v w' => v = .tuple ⟨[]⟩ ∧ w' = ((W.setCell ⟨g, 0 + i, none⟩ (enc8 dk[j]!)).setCell ⟨g, 0 + j, none⟩ (enc8 dk[i]!)).drewN 1) ?_) ?_
  · unfold VC330
    refine ⟨[((⟨g, 0, none⟩ : Addr).add (((j : Nat) : Int).toNat * 1), .int .i32 ((dk[j]!).toNat : Int)), ((⟨g, 0, none⟩ : Addr).add (((i : Nat) : Int).toNat * 1), .int .i32 ((dk[i]!).toNat : Int))], kept_of (fun p hp => ?_), ⟨by omega, by omega⟩, _, rfl, _, List.mem_cons_self, ⟨by omega, by omega⟩, _, rfl, _, List.mem_cons_of_mem _ List.mem_cons_self, ⟨by omega, by omega⟩, _, rfl, ?_⟩
    · simp only [List.mem_cons, List.mem_nil_iff, or_false] at hp
      rcases hp with rfl | rfl
      · exact cj.1
      · exact ci.1
    refine ⟨can W.drew i _ _ (hh i (by omega)).1 ci.2 rfl, fun w1 hw1 => ⟨⟨by omega, by omega⟩, _, rfl, ?_⟩⟩
    have hw1' : w1 = (W.setCell ⟨g, 0 + i, none⟩ (enc8 dk[j]!)).drew := by rw [hw1, add_at, Nat.mul_one, Int.toNat_natCast]; rfl
    obtain ⟨v', hv'⟩ := cell?_setCell_some (w := W) (p := ⟨g, 0 + i, none⟩) (x := enc8 dk[j]!) (q := ⟨g, 0 + j, none⟩) (hh j (by omega)).1
    refine ⟨can w1 j _ v' (by rw [hw1']; exact hv') ?_ rfl, fun w2 hw2 => ⟨rfl, ?_⟩⟩
    · rw [hw1']
      show (W.setCell ⟨g, 0 + i, none⟩ (enc8 dk[j]!)).frozen? _ = false
      rw [Go.Sort.setCell_eq, frozen?_mapBlock]; exact cj.2
    · rw [hw2, hw1', add_at, Nat.mul_one, Int.toNat_natCast]; rfl
  · rintro v w' ⟨rfl, rfl⟩
    exact ⟨rfl, 1, rfl⟩

theorem ret236 (s : List UInt8) (hs : lettersUp s) (hl : s.length ≤ 300) (w : World) : Ret 236 [.string (mkS s)] w (.string (mkS s)) := by
  have ha : ∀ b ∈ s, b.toNat < 128 := fun b hb => by have := (hs.1 b hb).2; omega
  refine Ret.of (c236 s w _ ?_)
  unfold VC236
  have hsz : (mkS s).size = s.length := rfl
  have hrunes : Conv.runesFrom (mkS s) (mkS s).size 0 #[] = (s.map enc8).toArray := by
    rw [runes_ascii s ha _ 0 #[] (by rw [hsz]; omega)]
    simp
  have hrl : (s.map enc8).toArray.size = s.length := by simp
  have hconv := run_runes_of_string (P := prog) w 9 223 21 (mkS s) u9 u223 u21 (by rw [hrunes, hrl]; omega)
  rw [hrunes, hrl] at hconv
  generalize hcap : grownCap w s.length 0 21 = cap at hconv
  have hk1 : Keeps w (w.drew.alloc (.cells ((s.map enc8).toArray ++ Array.replicate (cap - s.length) (.int .i32 0)) 21)) := (Keeps.refl w).drew.alloc _
  have hcellsA : ∀ j, j < s.length → ((s.map enc8).toArray ++ Array.replicate (cap - s.length) (.int .i32 0))[j]? = some (enc8 s.toArray[j]!) := by
    intro j hj
    rw [Array.getElem?_append_left (by rw [hrl]; exact hj)]
    simp [hj]
  have hH : Holds enc8 (w.drew.alloc (.cells ((s.map enc8).toArray ++ Array.replicate (cap - s.length) (.int .i32 0)) 21)) w.heap.size 0 s.toArray := by
    intro j hj
    have hj' : j < s.length := by simpa using hj
    refine ⟨?_, World.frozen?_alloc_new _ _ _ _⟩
    rw [Nat.zero_add]
    show (w.drew.alloc _).cell? ⟨w.drew.heap.size, j, none⟩ = _
    rw [World.cell?_alloc_new]
    exact hcellsA j hj'
  have hlt : w.heap.size < (w.drew.alloc (.cells ((s.map enc8).toArray ++ Array.replicate (cap - s.length) (.int .i32 0)) 21)).heap.size := by simp
  generalize w.drew.alloc (.cells ((s.map enc8).toArray ++ Array.replicate (cap - s.length) (.int .i32 0)) 21) = w1 at *
  refine ⟨_, _, _, w1, hconv, ?_⟩
  obtain ⟨r1, r2, r3⟩ := reach343 (.slice (some ⟨w.heap.size, 0, none⟩) s.length cap)
  have hds : s.toArray.size = s.length := by simp
  -- the sort leaves the letters as they are
  have hsort : Calls prog 157 ⟨[.iface 343 (.slice (some ⟨w.heap.size, 0, none⟩) s.length cap)]⟩ w1 fun e w2 => e = .returned (.tuple ⟨[]⟩) ∧ Keeps w w2 ∧ Holds enc8 w2 w.heap.size 0 s.toArray := by
    by_cases h2 : s.length ≤ 1
    · refine (sort_Sort_tiny (α := UInt8) 343 _ 328 r1 s.length h2 w1 (lenM343 _ _ _ w1)).mono ?_
      rintro e w2 ⟨rfl, q, rfl⟩
      exact ⟨rfl, hk1.trans (keeps_drewN w1 q), hH⟩
    · refine (sort_Sort_sorted 343 _ 328 329 330 r1 r2 r3 enc8 lt8 swo8 w.heap.size 0 s.toArray (by rw [hds]; omega) (by rw [hds]; omega) w1 (by rw [hds]; exact lenM343 _ _ _ w1) (by have := lessM343 w.heap.size cap s.toArray w1 hH hlt (by rw [hds]; omega); rwa [hds] at this) (by rw [hds]; exact swapM343 _ _ _ (by omega)) hH hlt).mono ?_
      rintro e w2 ⟨rfl, d', n, os, hperm, hsorted, rfl⟩
      have hd's : d'.size = s.length := by rw [hperm.1, hds]
      have hd' : d' = s.toArray := by
        have hp : d'.toList.Perm s := by
          have := hperm.2.2
          rw [hds] at this
          have e1 : d'.extract 0 s.length = d' := by rw [← hd's]; simp
          have e2 : s.toArray.extract 0 s.length = s.toArray := by rw [← hds]; simp
          rw [e1, e2] at this
          simpa using this
        have hpw : d'.toList.Pairwise fun a b => a.toNat ≤ b.toNat := by
          rw [List.pairwise_iff_getElem]
          intro i j hi hj hij
          have hi' : i < d'.size := by simpa using hi
          have hj' : j < d'.size := by simpa using hj
          have := hsorted i j (Nat.zero_le _) hij (by rw [hds, ← hd's]; exact hj')
          rw [getElem!_pos d' i hi', getElem!_pos d' j hj'] at this
          simp only [lt8, decide_eq_false_iff_not] at this
          simp only [Array.getElem_toList]
          omega
        have heq := List.Perm.eq_of_pairwise (le := fun a b : UInt8 => a.toNat ≤ b.toNat) (fun a b _ _ h1 h2 => UInt8.toNat_inj.1 (by omega)) hpw (pairwise_of_sortedB s hs.2) hp
        rw [← heq]
      subst hd'
      have hp : putRow enc8 (Go.Sort.ahead w1 n) w.heap.size 0 s.toArray = Go.Sort.ahead w1 n := putRow_self enc8 _ _ _ _ (holds_ahead enc8 w1 n _ _ _ hH)
      rw [hp]
      have hka : Keeps w1 (grow (Go.Sort.ahead w1 n) os) := keeps_grow w1 n os
      exact ⟨rfl, hk1.trans hka, holds_grow enc8 _ os _ _ _ hlt (holds_ahead enc8 w1 n _ _ _ hH)⟩
  refine hsort.mono ?_
  rintro e w2 ⟨rfl, hk2, hH2⟩
  have hback := run_convert_runes (P := prog) w2 223 9 21 ⟨w.heap.size, 0, none⟩ s.length cap (s.map fun b => (b.toNat : Int)) (by simp) u223 u21 u9 (fun j hj => by
    have hj' : j < s.length := by simpa using hj
    have := (hH2 j (by rw [hds]; exact hj')).1
    rw [add_at, this]
    have e1 : s.toArray[j]! = s[j] := by rw [getElem!_pos _ j (by rw [hds]; exact hj')]; simp
    rw [e1]
    simp [enc8, hj'])
  have htk : (s.map fun b => (b.toNat : Int)).take s.length = s.map fun b => (b.toNat : Int) := List.take_of_length_le (by simp)
  rw [htk] at hback
  have hrb : runesBytes (s.map fun b => (b.toNat : Int)) = mkS s := by
    unfold runesBytes
    rw [runes_back s _ ha]
    rfl
  rw [hrb] at hback
  exact ⟨rfl, s, w2, hback, rfl, hk2⟩
end Go.Proofs.Tryz
