/- Parts of a proof, joined: VcBase, Kt, Sl, Vl, Ap, VA, A1. -/
import Derived.Test.YtfofafjemgfobaaGreatDoorX3
import Derived.Test.YtfofafjemgfobaaGreatDoorProg
import Derived.Below
import Derived.Laws.BitsAllLaws
import Derived.Laws.Bits64b
import Derived.Laws.BitsLemmas
import Derived.Lib.AppendStr
import Derived.Lib.ConvBytes
import Derived.Laws.IdiomStrings
import Derived.Laws.BytesArg
import Derived.Laws.OwnMore
namespace Go.Proofs.Tryz
theorem mixed : prog.follows .mixedOrders = true := by kernel_rfl
open Go.Vc
abbrev CR (k : Nat) (args : List Value) (w : World) (R : RR) : Prop := Calls prog k ⟨args⟩ w fun e w' => ∃ v, e = .returned v ∧ R v w'
theorem vcc {k : Nat} {fn : Func} {ann : Ann} {args : List Value} {w : World} {R : RR} {p : Prop} (h : p) (hf : prog.funcs[k]? = some fn) (he : p = vcFn prog fn ann args w R) : CR k args w R :=
  vc_calls mixed hf (he ▸ h)
end Go.Proofs.Tryz
set_option linter.unusedVariables false
namespace Go.Proofs.Tryz
open Go.Vc Go.RowKit
def Keeps (w w' : World) : Prop := Below w.heap.size w w'
theorem Keeps.refl (w : World) : Keeps w w := Below.refl _ _
theorem Keeps.below {w w' : World} (h : Keeps w w') {B : Nat} (hB : B ≤ w.heap.size) : Below B w w' := Below.mono h hB
theorem Keeps.trans {a b c : World} (h : Keeps a b) (k : Keeps b c) : Keeps a c := Below.trans h (k.below h.size)
theorem Keeps.drew {a b : World} (h : Keeps a b) : Keeps a b.drew := Below.drew h
theorem Keeps.alloc {a b : World} (h : Keeps a b) (o : Obj) : Keeps a (b.alloc o) := Below.alloc h h.size o
theorem Keeps.size {a b : World} (h : Keeps a b) : a.heap.size ≤ b.heap.size := Below.size h
theorem cell_lt {w : World} {a : Addr} {v : Value} (h : w.cell? a = some v) : a.block < w.heap.size := by
  unfold World.cell? at h
  rcases Nat.lt_or_ge a.block w.heap.size with h' | h'
  · exact h'
  · rw [Array.getElem?_eq_none h'] at h; simp at h
theorem Keeps.cell {w w' : World} (h : Keeps w w') {a : Addr} {v : Value} (hc : w.cell? a = some v) : w'.cell? a = some v := by
  rw [Below.cell h (cell_lt hc)]; exact hc
theorem below_cell {B : Nat} {w w' : World} (h : Below B w w') {a : Addr} {v : Value} (hB : a.block < B) (hc : w.cell? a = some v) : w'.cell? a = some v := by
  rw [Below.cell h hB]; exact hc
def Ret (k : Nat) (args : List Value) (w : World) (v : Value) : Prop := Calls prog k ⟨args⟩ w fun e w' => e = .returned v ∧ Keeps w w'
theorem Ret.of {k : Nat} {args : List Value} {w : World} {v : Value} (h : Calls prog k ⟨args⟩ w fun e w' => ∃ u, e = .returned u ∧ (u = v ∧ Keeps w w')) : Ret k args w v :=
  Calls.mono h fun e w' ⟨u, he, hu, hk⟩ => ⟨by rw [he, hu], hk⟩
theorem Ret.go {k : Nat} {args : List Value} {w : World} {v : Value} (h : Ret k args w v) {Q : Ending → World → Prop} (hq : ∀ w', Keeps w w' → Q (.returned v) w') : Calls prog k ⟨args⟩ w Q :=
  Calls.mono h fun e w' ⟨he, hk⟩ => by rw [he]; exact hq w' hk
theorem i64w {n : Int} (h0 : -9223372036854775808 ≤ n) (h1 : n ≤ 9223372036854775807) : IntKind.i64.wrap n = n := IntWalk.i64_in n ⟨h0, h1⟩
theorem i32w {n : Int} (h0 : -2147483648 ≤ n) (h1 : n ≤ 2147483647) : IntKind.i32.wrap n = n := IntWalk.i32_in n ⟨h0, h1⟩
theorem u8w {n : Int} (h0 : 0 ≤ n) (h1 : n ≤ 255) : IntKind.u8.wrap n = n := IntWalk.u8_in n ⟨h0, h1⟩
theorem u32w {n : Int} (h0 : 0 ≤ n) (h1 : n ≤ 4294967295) : IntKind.u32.wrap n = n := IntWalk.u32_in n ⟨h0, h1⟩
theorem u64w {n : Int} (h0 : 0 ≤ n) (h1 : n ≤ 18446744073709551615) : IntKind.u64.wrap n = n := IntWalk.u64_in n ⟨h0, h1⟩
theorem byte_lt (b : UInt8) : b.toNat < 256 := b.toNat_lt
theorem fdiv_nat (a : Nat) (k : Nat) : Int.fdiv (a : Int) (2 ^ k) = ((a / 2 ^ k : Nat) : Int) := by
  rw [Int.fdiv_eq_ediv_of_nonneg _ (Int.pow_nonneg (by decide))]; norm_cast
theorem i64_and_nat (a b : Nat) (ha : a < 9223372036854775808) (hb : b < 9223372036854775808) : bits .and .i64 (a : Int) (b : Int) = ((a &&& b : Nat) : Int) := by
  have := bits_nat .i64 63 (by decide) (fun n h0 h1 => i64w (by omega) (by omega)) a b ha hb
  exact this.1
def asc (s : List UInt8) : Prop := ∀ b ∈ s, b.toNat < 128
theorem asc_dec {s : List UInt8} (h : (s.all fun b => decide (b.toNat < 128)) = true) : asc s := fun b hb => of_decide_eq_true (List.all_eq_true.1 h b hb)
theorem asc.app {a b : List UInt8} (ha : asc a) (hb : asc b) : asc (a ++ b) := fun x hx => (List.mem_append.1 hx).elim (ha x) (hb x)
theorem asc.take {a : List UInt8} {k : Nat} (h : asc a) : asc (a.take k) := fun x hx => h x (List.mem_of_mem_take hx)
theorem asc.drop {a : List UInt8} {k : Nat} (h : asc a) : asc (a.drop k) := fun x hx => h x (List.mem_of_mem_drop hx)
theorem asc_rep (n : Nat) : asc (List.replicate n 48) := fun x hx => by rw [(List.mem_replicate.1 hx).2]; decide
def bc (l : List UInt8) : List Value := l.map fun b => Value.int .u8 (b.toNat : Int)
theorem bc_length (l : List UInt8) : (bc l).length = l.length := by simp [bc]
theorem bc_append (l m : List UInt8) : bc (l ++ m) = bc l ++ bc m := by simp [bc]
theorem bc_get {l : List UInt8} {j : Nat} {u : Value} (h : (bc l)[j]? = some u) : ∃ b, l[j]? = some b ∧ u = .int .u8 (b.toNat : Int) := by
  simp only [bc, List.getElem?_map, Option.map_eq_some_iff] at h
  obtain ⟨b, h1, h2⟩ := h
  exact ⟨b, h1, h2.symm⟩
theorem bc_one (l : List UInt8) : ∀ u ∈ bc l, u.oneCell' = true := by
  intro u hu
  simp only [bc, List.mem_map] at hu
  obtain ⟨b, _, rfl⟩ := hu
  rfl
def ReadsB (w : World) (p : Option Addr) (l : List UInt8) : Prop := ∀ j b, l[j]? = some b → ∃ a, p = some a ∧ w.cell? (a.add j) = some (.int .u8 (b.toNat : Int))
theorem ReadsB.keeps {w w' : World} {p : Option Addr} {l : List UInt8} (h : ReadsB w p l) (k : Keeps w w') : ReadsB w' p l := fun j b hj =>
  let ⟨a, ha, hc⟩ := h j b hj
  ⟨a, ha, k.cell hc⟩
theorem ReadsB.drew {w : World} {p : Option Addr} {l : List UInt8} (h : ReadsB w p l) : ReadsB w.drew p l := h
theorem ReadsB.nil (w : World) (p : Option Addr) : ReadsB w p [] := fun j b hj => by simp at hj
theorem ReadsB.at {w : World} {a : Addr} {l : List UInt8} (h : ReadsB w (some a) l) {j : Nat} {b : UInt8} (hj : l[j]? = some b) : w.cell? (a.add j) = some (.int .u8 (b.toNat : Int)) := by
  obtain ⟨a', ha, hc⟩ := h j b hj
  cases ha; exact hc
theorem u23 : prog.underlying 23 = some (.slice 5) := by kernel_rfl
theorem u5 : prog.underlying 5 = some (.int .u8) := by kernel_rfl
theorem u9 : prog.underlying 9 = some .string := by kernel_rfl
theorem conv_string {w : World} {p : Option Addr} {n c : Nat} {l : List UInt8} (h : ReadsB w p l) (hn : n = l.length) : (convert 23 9 (.slice p n c)).run prog w = .ok (.string (mkS l)) w := by
  subst hn
  cases p with
  | none =>
    have : l = [] := by
      cases l with
      | nil => rfl
      | cons b r => obtain ⟨a, ha, _⟩ := h 0 b rfl; cases ha
    subst this
    exact run_convert_bytes_nil w 23 5 u23 u5 _ _ 9 u9
  | some a => exact run_convert_bytes_back w 23 9 5 a c l u23 u5 u9 (fun j hj => h.at (List.getElem?_eq_getElem hj))
theorem conv_bytes (w : World) (l : List UInt8) : ∃ c w', (convert 9 23 (.string (mkS l))).run prog w = .ok (.slice (some ⟨w.heap.size, 0, none⟩) l.length c) w' ∧ l.length ≤ c ∧ Keeps w w' ∧ w'.heap.size = w.heap.size + 1 ∧
    ReadsB w' (some ⟨w.heap.size, 0, none⟩) l ∧ w' = Lib.bytesWorld w 5 (mkS l) := by
  refine ⟨_, _, Lib.run_convert_string_bytes w 9 23 5 (mkS l) u9 u23 u5, grownCap_ge w l.length 0 5, ?_, Lib.bytesWorld_size _ _ _, ?_, rfl⟩
  · exact ⟨rfl, rfl, rfl, by rw [Lib.bytesWorld_size]; omega, fun k hk => Lib.bytesWorld_at_old w 5 _ k hk⟩
  · intro j b hj
    refine ⟨_, rfl, ?_⟩
    have hlt := (List.getElem?_eq_some_iff.1 hj).1
    have e : (⟨w.heap.size, 0, none⟩ : Addr).add j = ⟨w.heap.size, j, none⟩ := by
      unfold Addr.add; split
      · rename_i h; subst h; rfl
      · simp
    rw [e, Lib.bytesWorld_cell w 5 (mkS l) j hlt]
    simp [mkS, List.getD, hj]
def Own (B : Nat) (w : World) (p : Option Addr) (n c : Nat) (l : List UInt8) : Prop := w.ownsRow B 5 1 (.slice p n c) n (bc l) ∧ n = l.length
theorem Own.nil (B : Nat) (w : World) : Own B w none 0 0 [] := ⟨⟨rfl, .inl ⟨rfl, rfl⟩⟩, rfl⟩
theorem Own.new (B : Nat) (w : World) (l : List UInt8) (hB : B ≤ w.heap.size) (hl : l.length ≤ 16777216) : Own B (w.alloc (.cells ⟨bc l⟩ 5)) (some ⟨w.heap.size, 0, none⟩) l.length l.length l := by
  have := World.ownsRow_lit (e := 5) (size := 1) w ⟨bc l⟩ l.length hB (by simp only [maxLen]; omega) (by simp [bc_length])
  exact ⟨this, rfl⟩
theorem Own.block {B : Nat} {w : World} {p : Option Addr} {n c : Nat} {l : List UInt8} (h : Own B w p n c l) {a : Addr} (ha : p = some a) : B ≤ a.block ∧ a.block < w.heap.size ∧ a = ⟨a.block, 0, none⟩ := by
  subst ha
  rcases h.1.2 with ⟨hv, _⟩ | ⟨g, cap, cur, hv, hb, hg, _⟩
  · cases hv
  · cases hv
    exact ⟨hb, (Array.getElem?_eq_some_iff.1 hg).1, rfl⟩
theorem Own.keep {B : Nat} {w w' : World} {p : Option Addr} {n c : Nat} {l : List UInt8} (h : Own B w p n c l) (hk : ∀ a, p = some a → w'.heap[a.block]? = w.heap[a.block]?) : Own B w' p n c l := by
  refine ⟨⟨h.1.1, ?_⟩, h.2⟩
  rcases h.1.2 with ⟨hv, hn⟩ | ⟨g, cap, cur, hv, hb, hg, r⟩
  · exact .inl ⟨hv, hn⟩
  · cases hv
    exact .inr ⟨g, _, cur, rfl, hb, by rw [hk _ rfl]; exact hg, r⟩
theorem Own.keeps {B : Nat} {w w' : World} {p : Option Addr} {n c : Nat} {l : List UInt8} (h : Own B w p n c l) (k : Keeps w w') : Own B w' p n c l :=
  h.keep fun a ha => Below.block k _ (h.block ha).2.1
theorem Own.drew {B : Nat} {w : World} {p : Option Addr} {n c : Nat} {l : List UInt8} (h : Own B w p n c l) : Own B w.drew p n c l := h.keep fun _ _ => rfl
theorem Own.reads {B : Nat} {w : World} {p : Option Addr} {n c : Nat} {l : List UInt8} (h : Own B w p n c l) : ReadsB w p l := by
  intro j b hj
  have hlt := (List.getElem?_eq_some_iff.1 hj).1
  cases p with
  | none =>
    rcases h.1.2 with ⟨hv, hn⟩ | ⟨g, cap, cur, hv, _⟩
    · have := h.2; omega
    · cases hv
  | some a =>
    obtain ⟨_, _, ha⟩ := h.block rfl
    refine ⟨a, rfl, ?_⟩
    rw [ha]
    have hown := h.1
    rw [ha] at hown
    have e : (⟨a.block, 0, none⟩ : Addr).add j = ⟨a.block, j, none⟩ := by
      unfold Addr.add; split
      · rename_i h; subst h; rfl
      · simp
    rw [e, hown.cellAt j (by have := h.2; omega)]
    simp [bc, hj]
theorem Own.len {B : Nat} {w : World} {p : Option Addr} {n c : Nat} {l : List UInt8} (h : Own B w p n c l) : n = l.length := h.2
theorem Own.cap {B : Nat} {w : World} {p : Option Addr} {n c : Nat} {l : List UInt8} (h : Own B w p n c l) : n ≤ c := by
  rcases h.1.2 with ⟨hv, hn⟩ | ⟨g, cap, cur, hv, _, _, hnc, _⟩
  · cases hv; exact Nat.le_refl _
  · cases hv; exact hnc
theorem i5 : ∃ i, prog.info? 5 = some i ∧ i.size = 1 ∧ i.bytes = 1 ∧ i.zero = some (.int .u8 0) := ⟨Go.Proofs.Tryz.t5, by kernel_rfl, by kernel_rfl, by kernel_rfl, by kernel_rfl⟩
theorem slice_of_owns {w : World} {B e size n : Nat} {v : Value} {xs : List Value} (h : w.ownsRow B e size v n xs) : ∃ p c, v = .slice p n c := by
  rcases h.2 with ⟨rfl, rfl⟩ | ⟨g, cap, cur, rfl, _⟩
  · exact ⟨_, _, rfl⟩
  · exact ⟨_, _, rfl⟩
theorem append_bytes {B : Nat} {w : World} {p q : Option Addr} {n c m c2 : Nat} {l l2 : List UInt8} (h : Own B w p n c l) (hq : ReadsB w q l2) (hm : m = l2.length) (hnil : q = none → c2 = 0)
    (hlen : l.length + l2.length ≤ 70368744177664) (hB : B ≤ w.heap.size) (cs : List Bool) :
    ∃ p' n' c' w', BuiltinOk prog .append #[23, 23] 23 cs [.slice p n c, .slice q m c2] w (.slice p' n' c') w' ∧ Own B w' p' n' c' (l ++ l2) ∧ w.grownBy w' (Value.ownBlock (.slice p n c)) := by
  obtain ⟨i, hi, hs, hby, hz⟩ := i5
  have fin : ∀ v' w', (Builtin.append_ #[23, 23] 23 #[.slice p n c, .slice q m c2]).run prog w = .ok v' w' → BuiltinOk prog .append #[23, 23] 23 cs [.slice p n c, .slice q m c2] w v' w' := fun v' w' hr => by
    unfold BuiltinOk
    simp only [builtin, Sem.run_bind, hr, Result.andThen_ok, Sem.run_pure]
  have hn := h.2
  cases q with
  | none =>
    have hl2 : l2 = [] := by
      cases l2 with
      | nil => rfl
      | cons b r => obtain ⟨a, ha, _⟩ := hq 0 b rfl; cases ha
    subst hl2
    obtain rfl : m = 0 := by simpa using hm
    obtain rfl := hnil rfl
    refine ⟨p, n, c, w, fin _ _ (run_append_owned_none (P := prog) w B 23 23 5 i 1 u23 hi _ _ _ h.1), by simpa using h, ⟨rfl, rfl, rfl, Nat.le_refl _, fun _ _ _ => rfl⟩⟩
  | some a =>
    obtain ⟨v', w', hr, ho, hg, _⟩ := run_append_own (P := prog) w B 23 23 5 i (.int .u8 0) 1 1 u23 hi hz hs hby rfl (by decide) (.slice p n c) n (bc l) h.1 a m c2 (bc l2)
      (by rw [bc_length]; omega) (fun j u hj => by obtain ⟨b, hb, rfl⟩ := bc_get hj; exact hq.at hb) (bc_one _) (by simp only [maxLen]; omega) (by omega) hB
    obtain ⟨p', c', rfl⟩ := slice_of_owns ho
    refine ⟨p', n + m, c', w', fin _ _ hr, ⟨?_, by simp; omega⟩, hg⟩
    rw [bc_append]; exact ho
theorem append_str {B : Nat} {w : World} {p : Option Addr} {n c : Nat} {l l2 : List UInt8} (h : Own B w p n c l)
    (hlen : l.length + l2.length ≤ 70368744177664) (hB : B ≤ w.heap.size) (cs : List Bool) :
    ∃ p' n' c' w', BuiltinOk prog .append #[23, 9] 23 cs [.slice p n c, .string (mkS l2)] w (.slice p' n' c') w' ∧ Own B w' p' n' c' (l ++ l2) ∧ w.grownBy w' (Value.ownBlock (.slice p n c)) := by
  obtain ⟨i, hi, hs, hby, hz⟩ := i5
  have hn := h.2
  have hsz : (mkS l2).size = l2.length := rfl
  obtain ⟨v', w', hr, ho, hg, _⟩ := Lib.run_append_own_string (P := prog) w B 23 9 23 5 i u23 u9 hi hz hs hby (.slice p n c) n (bc l) h.1 (mkS l2) (by rw [hsz]; simp only [maxLen]; omega) (by rw [hsz]; omega) hB
  obtain ⟨p', c', rfl⟩ := slice_of_owns ho
  refine ⟨p', n + (mkS l2).size, c', w', ?_, ⟨?_, by rw [hsz]; simp; omega⟩, hg⟩
  · unfold BuiltinOk
    simp only [builtin, Sem.run_bind, hr, Result.andThen_ok, Sem.run_pure]
  · rw [bc_append]; exact ho
theorem Own.below {B b : Nat} {a w w' : World} {p : Option Addr} {n c : Nat} {l : List UInt8} (h : Own B w p n c l) (hb : b ≤ B) (hB : B ≤ w.heap.size) (k : Below b a w) (hg : w.grownBy w' (Value.ownBlock (.slice p n c))) : Below b a w' := by
  refine k.grown hg (by omega) fun j hj => ?_
  cases p with
  | none => simp [Value.ownBlock] at hj
  | some x =>
    simp only [Value.ownBlock, Option.some.injEq] at hj
    have := (h.block rfl).1
    omega
theorem append_lit {B b : Nat} {a w w1 : World} {p : Option Addr} {n c k : Nat} {l bs : List UInt8} {cells : List Value} (h : Own B w p n c l) (hb : b ≤ B) (hB : B ≤ w.heap.size) (hk : Below b a w)
    (hw : w1 = w.alloc (.cells ⟨cells⟩ 5)) (hc : cells = bc bs) (hkl : k = bs.length) (hlen : l.length + bs.length ≤ 70368744177664) (cs : List Bool) :
    ∃ p' n' c' w', BuiltinOk prog .append #[23, 23] 23 cs [.slice p n c, .slice (some ⟨w.heap.size, 0, none⟩) k k] w1 (.slice p' n' c') w' ∧ Own B w' p' n' c' (l ++ bs) ∧ Below b a w' ∧ B ≤ w'.heap.size := by
  subst hw hc hkl
  have hkw : Keeps w (w.alloc (.cells ⟨bc bs⟩ 5)) := (Keeps.refl w).alloc _
  have ho := h.keeps hkw
  have hr : ReadsB (w.alloc (.cells ⟨bc bs⟩ 5)) (some ⟨w.heap.size, 0, none⟩) bs := by
    intro j x hj
    refine ⟨_, rfl, ?_⟩
    have e : (⟨w.heap.size, 0, none⟩ : Addr).add j = ⟨w.heap.size, j, none⟩ := by
      unfold Addr.add; split
      · rename_i h; subst h; rfl
      · simp
    rw [e, cell_of_row _ w.heap.size j ⟨bc bs⟩ 5 (0, 0) (heap_alloc_new w _)]
    simp [bc, hj]
  obtain ⟨p', n', c', w', h1, h2, h3⟩ := append_bytes ho hr rfl (fun e => by cases e) hlen (Nat.le_trans hB hkw.size) cs
  exact ⟨p', n', c', w', h1, h2, ho.below hb (Nat.le_trans hB hkw.size) (hk.alloc (Nat.le_trans hb hB) _) h3, Nat.le_trans (Nat.le_trans hB hkw.size) h3.size⟩
theorem append_str' {B b : Nat} {a w : World} {p : Option Addr} {n c : Nat} {l l2 : List UInt8} (h : Own B w p n c l) (hb : b ≤ B) (hB : B ≤ w.heap.size) (hk : Below b a w)
    (hlen : l.length + l2.length ≤ 70368744177664) (cs : List Bool) :
    ∃ p' n' c' w', BuiltinOk prog .append #[23, 9] 23 cs [.slice p n c, .string (mkS l2)] w (.slice p' n' c') w' ∧ Own B w' p' n' c' (l ++ l2) ∧ Below b a w' ∧ B ≤ w'.heap.size := by
  obtain ⟨p', n', c', w', h1, h2, h3⟩ := append_str h hlen hB cs
  exact ⟨p', n', c', w', h1, h2, h.below hb hB hk h3, Nat.le_trans hB h3.size⟩
theorem append_bytes' {B b : Nat} {a w : World} {p q : Option Addr} {n c m c2 : Nat} {l l2 : List UInt8} (h : Own B w p n c l) (hq : ReadsB w q l2) (hm : m = l2.length) (hnil : q = none → c2 = 0)
    (hb : b ≤ B) (hB : B ≤ w.heap.size) (hk : Below b a w) (hlen : l.length + l2.length ≤ 70368744177664) (cs : List Bool) :
    ∃ p' n' c' w', BuiltinOk prog .append #[23, 23] 23 cs [.slice p n c, .slice q m c2] w (.slice p' n' c') w' ∧ Own B w' p' n' c' (l ++ l2) ∧ Below b a w' ∧ B ≤ w'.heap.size := by
  obtain ⟨p', n', c', w', h1, h2, h3⟩ := append_bytes h hq hm hnil hlen hB cs
  exact ⟨p', n', c', w', h1, h2, h.below hb hB hk h3, Nat.le_trans hB h3.size⟩
inductive Val where
  | mk (kind : Int) (text more : List UInt8) (num bits high : Int) (b : List UInt8) (kids : List (List UInt8 × Val))
def Val.kind : Val → Int | .mk k _ _ _ _ _ _ _ => k
def Val.text : Val → List UInt8 | .mk _ t _ _ _ _ _ _ => t
def Val.more : Val → List UInt8 | .mk _ _ m _ _ _ _ _ => m
def Val.num : Val → Int | .mk _ _ _ n _ _ _ _ => n
def Val.bits : Val → Int | .mk _ _ _ _ b _ _ _ => b
def Val.high : Val → Int | .mk _ _ _ _ _ h _ _ => h
def Val.b : Val → List UInt8 | .mk _ _ _ _ _ _ b _ => b
def Val.kids : Val → List (List UInt8 × Val) | .mk _ _ _ _ _ _ _ k => k
def valCells (x : Val) (bp : Option Addr) (bc : Nat) (kp : Option Addr) (kc : Nat) : List Value :=
  [.int .i64 x.kind, .string (mkS x.text), .string (mkS x.more), .int .i64 x.num, .int .u64 x.bits, .int .u64 x.high, .slice bp x.b.length bc, .slice kp x.kids.length kc]
def inI64 (n : Int) : Prop := -9223372036854775808 ≤ n ∧ n ≤ 9223372036854775807
def inU64 (n : Int) : Prop := 0 ≤ n ∧ n ≤ 18446744073709551615
def Hangs : Nat → World → Val → Option Addr → Nat → Option Addr → Nat → Prop
  | 0, w, x, bp, bc, kp, kc => ReadsB w bp x.b ∧ ((bp = none → bc = 0) ∧ x.b.length ≤ bc) ∧ inI64 x.kind ∧ inI64 x.num ∧ inU64 x.bits ∧ inU64 x.high ∧ x.b.length ≤ 1125899906842624 ∧ x.kids.length ≤ 1125899906842624
  | d + 1, w, x, bp, bc, kp, kc => (ReadsB w bp x.b ∧ ((bp = none → bc = 0) ∧ x.b.length ≤ bc) ∧ inI64 x.kind ∧ inI64 x.num ∧ inU64 x.bits ∧ inU64 x.high ∧ x.b.length ≤ 1125899906842624 ∧ x.kids.length ≤ 1125899906842624) ∧
    ∀ i n y, x.kids[i]? = some (n, y) → ∃ (ka : Addr) (bp' : Option Addr) (bc' : Nat) (kp' : Option Addr) (kc' : Nat), kp = some ka ∧
      (∀ j v, (Value.string (mkS n) :: valCells y bp' bc' kp' kc')[j]? = some v → w.cell? ((ka.add (i * 9)).add j) = some v) ∧ Hangs d w y bp' bc' kp' kc'
theorem Hangs.own {d : Nat} {w : World} {x : Val} {bp : Option Addr} {bc : Nat} {kp : Option Addr} {kc : Nat} (h : Hangs d w x bp bc kp kc) :
    ReadsB w bp x.b ∧ ((bp = none → bc = 0) ∧ x.b.length ≤ bc) ∧ inI64 x.kind ∧ inI64 x.num ∧ inU64 x.bits ∧ inU64 x.high ∧ x.b.length ≤ 1125899906842624 ∧ x.kids.length ≤ 1125899906842624 := by
  cases d with
  | zero => exact h
  | succ d => exact h.1
theorem Hangs.map : ∀ {d : Nat} {w w' : World} {x : Val} {bp : Option Addr} {bc : Nat} {kp : Option Addr} {kc : Nat}, Hangs d w x bp bc kp kc → (∀ a v, w.cell? a = some v → w'.cell? a = some v) → Hangs d w' x bp bc kp kc
  | 0, w, w', x, bp, bc, kp, kc, h, hm => ⟨fun j b hj => let ⟨a, ha, hc⟩ := h.1 j b hj; ⟨a, ha, hm _ _ hc⟩, h.2⟩
  | d + 1, w, w', x, bp, bc, kp, kc, h, hm => by
    refine ⟨⟨fun j b hj => let ⟨a, ha, hc⟩ := h.1.1 j b hj; ⟨a, ha, hm _ _ hc⟩, h.1.2⟩, fun i n y hi => ?_⟩
    obtain ⟨ka, bp', bc', kp', kc', h1, h2, h3⟩ := h.2 i n y hi
    exact ⟨ka, bp', bc', kp', kc', h1, fun j v hj => hm _ _ (h2 j v hj), h3.map hm⟩
theorem Hangs.keeps {d : Nat} {w w' : World} {x : Val} {bp : Option Addr} {bc : Nat} {kp : Option Addr} {kc : Nat} (h : Hangs d w x bp bc kp kc) (k : Keeps w w') : Hangs d w' x bp bc kp kc :=
  h.map fun _ _ hc => k.cell hc
theorem Hangs.down : ∀ {d : Nat} {w : World} {x : Val} {bp : Option Addr} {bc : Nat} {kp : Option Addr} {kc : Nat}, Hangs (d + 1) w x bp bc kp kc → Hangs d w x bp bc kp kc
  | 0, w, x, bp, bc, kp, kc, h => h.1
  | d + 1, w, x, bp, bc, kp, kc, h => ⟨h.1, fun i n y hi => by
    obtain ⟨ka, bp', bc', kp', kc', h1, h2, h3⟩ := h.2 i n y hi
    exact ⟨ka, bp', bc', kp', kc', h1, h2, h3.down⟩⟩
def Lies (w : World) (b o : Nat) (cs : List Value) : Prop := ∀ j v, cs[j]? = some v → w.cell? ⟨b, o + j, none⟩ = some v
theorem Lies.at {w : World} {b o : Nat} {cs : List Value} (h : Lies w b o cs) (j : Nat) {v : Value} (hj : cs[j]? = some v) {k : Nat} (hk : k = o + j) : w.cell? ⟨b, k, none⟩ = some v := by
  subst hk; exact h j v hj
theorem Lies.keeps {w w' : World} {b o : Nat} {cs : List Value} (h : Lies w b o cs) (k : Keeps w w') : Lies w' b o cs := fun j v hj => k.cell (h j v hj)
theorem lies_alloc (w : World) (cs : List Value) (t : Nat) : Lies (w.alloc (.cells ⟨cs⟩ t)) w.heap.size 0 cs := by
  intro j v hj
  rw [cell_of_row _ w.heap.size (0 + j) ⟨cs⟩ t (0, 0) (heap_alloc_new w _)]
  simpa using hj
theorem add_at (b o j : Nat) : (⟨b, o, none⟩ : Addr).add j = ⟨b, o + j, none⟩ := by
  unfold Addr.add; split
  · rename_i h; subst h; rfl
  · rfl
theorem Lies.row {w : World} {b o t : Nat} {cs : List Value} (h : Lies w b o cs) (hn : cellsOf' prog t = some cs.length) : LoadsRow prog t w ⟨b, o, none⟩ cs :=
  ⟨hn, fun i v hi => by rw [add_at]; exact h i v hi⟩
theorem Lies.sub {w : World} {b : Nat} {cs : List Value} (h : Lies w b 0 cs) (o n : Nat) : Lies w b o ((cs.drop o).take n) := by
  intro j v hj
  have : cs[o + j]? = some v := by
    rw [List.getElem?_take] at hj
    split at hj
    · rwa [List.getElem?_drop] at hj
    · cases hj
  have := h (o + j) v this
  simpa using this
def Var (w : World) (g t : Nat) (cs : List Value) : Prop := w.heap[g]? = some (.cells ⟨cs⟩ t (0, 0))
theorem Var.lies {w : World} {g t : Nat} {cs : List Value} (h : Var w g t cs) : Lies w g 0 cs := by
  intro j v hj
  rw [cell_of_row _ g (0 + j) ⟨cs⟩ t (0, 0) h]
  simpa using hj
theorem Var.lt {w : World} {g t : Nat} {cs : List Value} (h : Var w g t cs) : g < w.heap.size := (Array.getElem?_eq_some_iff.1 h).1
theorem Var.keep {w w' : World} {g t : Nat} {cs : List Value} (h : Var w g t cs) (k : w'.heap[g]? = w.heap[g]?) : Var w' g t cs := by
  unfold Var; rw [k]; exact h
theorem Var.keeps {w w' : World} {g t : Nat} {cs : List Value} (h : Var w g t cs) (k : Keeps w w') : Var w' g t cs := h.keep (Below.block k _ h.lt)
theorem var_alloc (w : World) (cs : List Value) (t : Nat) : Var (w.alloc (.cells ⟨cs⟩ t)) w.heap.size t cs := heap_alloc_new w _
theorem store_row {w : World} {g t ty n : Nat} {zs cs : List Value} (hv : Var w g t zs) (ht : cellsOf' prog ty = some n) (hz : zs.length = n) (hc : cs.length = n)
    (h1 : cs.all (·.oneCell') = true) :
    ∃ w', (Instr.storeAt ty (.pointer (some ⟨g, 0, none⟩)) (.agg ⟨cs⟩)).run prog w = .ok () w' ∧ w.grownBy w' (some g) ∧ w'.heap.size = w.heap.size ∧ Var w' g t cs := by
  have hr := run_storeVar_row (P := prog) w g t ty ⟨zs⟩ ⟨cs⟩ hv (by unfold cellsOf' at ht; rw [ht]; simp [hc]) (by simp [hz, hc]) (by simpa using h1)
  have hsz : (w.setRow g ⟨cs⟩).heap.size = w.heap.size := by simp [World.setRow]
  refine ⟨w.setRow g ⟨cs⟩, ?_, ⟨rfl, rfl, rfl, by rw [hsz]; exact Nat.le_refl _, fun k _ hk => setRow_other w g k _ (fun e => hk (by rw [e]))⟩, hsz, setRow_heap w g ⟨zs⟩ ⟨cs⟩ t (0, 0) hv⟩
  simp only [Instr.storeAt, Instr.sureAddr, Sem.run_bind, Sem.run_pure, Result.andThen_ok, hr]
theorem store_new {w w7 : World} {t n : Nat} {zs cs : List Value} (hw : w7 = w.alloc (.cells ⟨zs⟩ t)) (hn : cellsOf' prog t = some n) (hz : zs.length = n) (hc : cs.length = n)
    (h1 : cs.all (·.oneCell') = true) :
    ∃ w8, (Instr.storeAt t (.pointer (some ⟨w.heap.size, 0, none⟩)) (.agg ⟨cs⟩)).run prog w7 = .ok () w8 ∧ Keeps w w8 ∧ w8.heap.size = w.heap.size + 1 ∧ Var w8 w.heap.size t cs := by
  subst hw
  obtain ⟨w8, h2, h3, h4, h5⟩ := store_row (var_alloc w zs t) hn hz hc h1
  refine ⟨w8, h2, ?_, by rw [h4]; simp, h5⟩
  exact ((Keeps.refl w).alloc _).grown h3 (by simp) (fun k hk => by simp at hk; omega)
theorem Var.set {w : World} {g t : Nat} {cs : List Value} (h : Var w g t cs) (j : Nat) (v : Value) : Var (w.setCell ⟨g, j, none⟩ v) g t (cs.set j v) := by
  have e := setCell_eq_setRow w g j ⟨cs⟩ t (0, 0) v h
  unfold Var
  rw [e, setRow_heap w g ⟨cs⟩ _ t (0, 0) h]
  simp
theorem Var.can {w : World} {g t : Nat} {cs : List Value} (h : Var w g t cs) {j : Nat} (hj : j < cs.length) {v : Value} (hv : v.oneCell' = true) : CanStore w ⟨g, j, none⟩ v := by
  refine ⟨?_, ?_, hv⟩
  · rw [cell_of_row _ g j ⟨cs⟩ t (0, 0) h]; simp [hj]
  · simp [World.frozen?, show w.heap[g]? = _ from h]
theorem setCell_grown (w : World) (a : Addr) (v : Value) : w.grownBy (w.setCell a v) (some a.block) :=
  ⟨rfl, rfl, rfl, by simp [World.setCell], fun k _ hk => Below.heap_setCell w a v k (fun e => hk (by rw [e]))⟩
theorem grown_trans {a b c : World} {r : Option Nat} (h : a.grownBy b r) (k : b.grownBy c r) : a.grownBy c r :=
  ⟨k.os.trans h.os, k.tape.trans h.tape, k.output.trans h.output, Nat.le_trans h.size k.size, fun i hi hr => (k.block i (Nat.lt_of_lt_of_le hi h.size) hr).trans (h.block i hi hr)⟩
theorem Keeps.grownBy {a b : World} (h : Keeps a b) (r : Option Nat) : a.grownBy b r := ⟨Below.os h, Below.tape h, Below.output h, h.size, fun k hk _ => Below.block h k hk⟩
theorem grown_cell {a b : World} {g : Nat} (h : a.grownBy b (some g)) {x : Addr} {v : Value} (hx : x.block ≠ g) (hc : a.cell? x = some v) : b.cell? x = some v := by
  rw [World.cell?_of_block (h.block x.block (cell_lt hc) (fun e => hx (Option.some.inj e)))]; exact hc
theorem grown_var {a b : World} {g k t : Nat} {cs : List Value} (h : a.grownBy b (some g)) (hx : k ≠ g) (hv : Var a k t cs) : Var b k t cs :=
  hv.keep (h.block k hv.lt (fun e => hx (Option.some.inj e)))
theorem n26 : cellsOf' prog 26 = some 8 := by kernel_rfl
theorem n46 : cellsOf' prog 46 = some 9 := by kernel_rfl
def Tagd (w w' : World) : Prop := ∀ g t cs, t ≠ 5 → Var w g t cs → Var w' g t cs
theorem Tagd.refl (w : World) : Tagd w w := fun _ _ _ _ h => h
theorem Tagd.trans {a b c : World} (h : Tagd a b) (k : Tagd b c) : Tagd a c := fun g t cs ht hv => k g t cs ht (h g t cs ht hv)
theorem Keeps.tagd {a b : World} (h : Keeps a b) : Tagd a b := fun _ _ _ _ hv => hv.keeps h
theorem Own.other {B : Nat} {w : World} {p : Option Addr} {n c g t : Nat} {l : List UInt8} {cs : List Value} (h : Own B w p n c l) (hv : Var w g t cs) (ht : t ≠ 5) : Value.ownBlock (.slice p n c) ≠ some g := by
  intro e
  rcases h.1.2 with ⟨hv', _⟩ | ⟨g', cap, cur, hv', hb, hg, _⟩
  · cases hv'
    simp [Value.ownBlock] at e
  · cases hv'
    simp only [Value.ownBlock, Option.some.injEq] at e
    subst e
    unfold Var at hv
    rw [hv] at hg
    simp only [Option.some.injEq, Obj.cells.injEq] at hg
    exact ht hg.2.1
structure Gr (B : Nat) (w w' : World) : Prop where
  below : Below B w w'
  tagd : Tagd w w'
theorem Gr.refl (B : Nat) (w : World) : Gr B w w := ⟨Below.refl _ _, Tagd.refl _⟩
theorem Gr.trans {B : Nat} {a b c : World} (h : Gr B a b) (k : Gr B b c) : Gr B a c := ⟨Below.trans h.below k.below, h.tagd.trans k.tagd⟩
theorem Gr.of {B : Nat} {a b : World} (k : Keeps a b) (hB : B ≤ a.heap.size) : Gr B a b := ⟨k.below hB, k.tagd⟩
theorem Gr.size {B : Nat} {a b : World} (h : Gr B a b) : a.heap.size ≤ b.heap.size := Below.size h.below
theorem Own.gr {B : Nat} {a b : World} {p : Option Addr} {n c : Nat} {l : List UInt8} (h : Own B a p n c l) (hB : B ≤ a.heap.size) (hg : a.grownBy b (Value.ownBlock (.slice p n c))) : Gr B a b :=
  ⟨h.below (Nat.le_refl _) hB (Below.refl _ _) hg, fun g t cs ht hv => hv.keep (hg.block g hv.lt (Ne.symm (h.other hv ht)))⟩
theorem append_litT {B : Nat} {w w1 : World} {p : Option Addr} {n c k : Nat} {l bs : List UInt8} {cells : List Value} (h : Own B w p n c l) (hB : B ≤ w.heap.size)
    (hw : w1 = w.alloc (.cells ⟨cells⟩ 5)) (hc : cells = bc bs) (hkl : k = bs.length) (hlen : l.length + bs.length ≤ 70368744177664) (cs : List Bool) :
    ∃ p' n' c' w', BuiltinOk prog .append #[23, 23] 23 cs [.slice p n c, .slice (some ⟨w.heap.size, 0, none⟩) k k] w1 (.slice p' n' c') w' ∧ Own B w' p' n' c' (l ++ bs) ∧ Gr B w w' := by
  subst hw hc hkl
  have hkw : Keeps w (w.alloc (.cells ⟨bc bs⟩ 5)) := (Keeps.refl w).alloc _
  have ho := h.keeps hkw
  have hr : ReadsB (w.alloc (.cells ⟨bc bs⟩ 5)) (some ⟨w.heap.size, 0, none⟩) bs := by
    intro j x hj
    refine ⟨_, rfl, ?_⟩
    rw [add_at, cell_of_row _ w.heap.size (0 + j) ⟨bc bs⟩ 5 (0, 0) (heap_alloc_new w _)]
    simp [bc, hj]
  obtain ⟨p', n', c', w', h1, h2, h3⟩ := append_bytes ho hr rfl (fun e => by cases e) hlen (Nat.le_trans hB hkw.size) cs
  exact ⟨p', n', c', w', h1, h2, (Gr.of hkw hB).trans (ho.gr (Nat.le_trans hB hkw.size) h3)⟩
theorem append_strT {B : Nat} {w : World} {p : Option Addr} {n c : Nat} {l l2 : List UInt8} (h : Own B w p n c l) (hB : B ≤ w.heap.size)
    (hlen : l.length + l2.length ≤ 70368744177664) (cs : List Bool) :
    ∃ p' n' c' w', BuiltinOk prog .append #[23, 9] 23 cs [.slice p n c, .string (mkS l2)] w (.slice p' n' c') w' ∧ Own B w' p' n' c' (l ++ l2) ∧ Gr B w w' := by
  obtain ⟨p', n', c', w', h1, h2, h3⟩ := append_str h hlen hB cs
  exact ⟨p', n', c', w', h1, h2, h.gr hB h3⟩
theorem append_bytesT {B : Nat} {w : World} {p q : Option Addr} {n c m c2 : Nat} {l l2 : List UInt8} (h : Own B w p n c l) (hq : ReadsB w q l2) (hm : m = l2.length) (hnil : q = none → c2 = 0)
    (hB : B ≤ w.heap.size) (hlen : l.length + l2.length ≤ 70368744177664) (cs : List Bool) :
    ∃ p' n' c' w', BuiltinOk prog .append #[23, 23] 23 cs [.slice p n c, .slice q m c2] w (.slice p' n' c') w' ∧ Own B w' p' n' c' (l ++ l2) ∧ Gr B w w' := by
  obtain ⟨p', n', c', w', h1, h2, h3⟩ := append_bytes h hq hm hnil hlen hB cs
  exact ⟨p', n', c', w', h1, h2, h.gr hB h3⟩
end Go.Proofs.Tryz
set_option linter.unusedVariables false
set_option maxRecDepth 100000
namespace Go.Proofs.Tryz
open Go.Vc
def VC6 (aa : Int) (ab : Bs) (ac : Bs) (xN : Int) (ad : Int) (ae : Int) (xB : Ptr) (af ag : Nat) (ah : Ptr) (ai aj : Nat) (w : World) (R : RR) : Prop :=
 ∀ w1, w1 = w.alloc (.cells ⟨[.int .i64 aa, .string (mkS ab), .string (mkS ac), .int .i64 xN, .int .u64 ad, .int .u64 ae, .slice xB af ag, .slice ah ai aj]⟩ 26) →
 ∃ x4 : Bs, w1.cell? ⟨w.heap.size, 1, none⟩ = some (.string (mkS x4)) ∧
 (decide (2147483647 < (x4.length : Int)) = true →
 R (.bool false) w1) ∧ (decide (2147483647 < (x4.length : Int)) = false →
 ∃ x8 : Bs, w1.cell? ⟨w.heap.size, 2, none⟩ = some (.string (mkS x8)) ∧
 (decide (2147483647 < (x8.length : Int)) = true →
 R (.bool false) w1) ∧ (decide (2147483647 < (x8.length : Int)) = false →
 ∃ (x12 : Ptr) (ak al : Nat), w1.cell? ⟨w.heap.size, 6, none⟩ = some (.slice x12 ak al) ∧
 (decide (2147483647 < (ak : Int)) = true →
 R (.bool false) w1) ∧ (decide (2147483647 < (ak : Int)) = false →
 ∃ (x16 : Ptr) (am ao : Nat), w1.cell? ⟨w.heap.size, 7, none⟩ = some (.slice x16 am ao) ∧
 (decide (2147483647 < (am : Int)) = true →
 R (.bool false) w1) ∧ (decide (2147483647 < (am : Int)) = false →
 R (.bool true) w1))))
def an6 : Ann :=
 .k .z
 (.k (.k (.t [.q, .s [.str]])
 (.cond 1 2 .zl .l))
 (.k (.k (.t [.q, .s [.str]])
 (.cond 3 4 .zl .l))
 (.k (.k (.t [.q, .s [.slice]])
 (.cond 5 6 .zl .l))
 (.k (.k (.t [.q, .s [.slice]])
 (.cond 7 8 .zl .l))
 .zl))))
theorem c6 (aa : Int) (ab : Bs) (ac : Bs) (xN : Int) (ad : Int) (ae : Int) (xB : Ptr) (af ag : Nat) (ah : Ptr) (ai aj : Nat) (w : World) (R : RR) (hvc : VC6 aa ab ac xN ad ae xB af ag ah ai aj w R) : CR 6 [.agg ⟨[.int .i64 aa, .string (mkS ab), .string (mkS ac), .int .i64 xN, .int .u64 ad, .int .u64 ae, .slice xB af ag, .slice ah ai aj]⟩] w R :=
 vcc (fn := f6) (ann := an6) hvc (by kernel_rfl) (by kernel_rfl)
def VC48 (s : Bs) (w : World) (R : RR) : Prop :=
 (decide (s = []) = true →
 R (.tuple ⟨[.int .i64 0, .int .i64 0]⟩) w) ∧ (decide (s = []) = false →
 ∃ x11 : UInt8, ((0 : Int) ≤ 0 ∧ s[0]? = some x11) ∧
 ∃ x12 : Int, IntKind.i64.wrap (x11.toNat : Int) = x12 ∧
 (decide (x12 < 128) = true →
 R (.tuple ⟨[.int .i64 1, .int .i64 x12]⟩) w) ∧ (decide (x12 < 128) = false →
 ∀ Kx : Int → Int → Int → World → Prop, (∀ c : Int, ∀ nx : Int, ∀ aa : Int, ∀ w1,
 ((decide (nx = 0) = true →
 R (.tuple ⟨[.int .i64 0, .int .i64 0]⟩) w1) ∧ (decide (nx = 0) = false →
 (decide ((s.length : Int) < nx) = true →
 R (.tuple ⟨[.int .i64 0, .int .i64 0]⟩) w1) ∧ (decide ((s.length : Int) < nx) = false →
 ∃ Ix : Nat → Int → Int → World → Prop, (∃ m_2, Ix m_2 c 1 w1) ∧
 ∀ m, ∀ c_1 : Int, ∀ i : Int, ∀ w2, Ix m c_1 i w2 →
 (decide (i < nx) = true →
 ∃ x58 : UInt8, ((0 : Int) ≤ i ∧ s[i.toNat]? = some x58) ∧
 (0 : Int) ≤ 6 ∧ ∃ x59 : Int, Int.fdiv (x58.toNat : Int) (2 ^ 6) = x59 ∧
 ((!decide (x59 = 2)) = true →
 R (.tuple ⟨[.int .i64 0, .int .i64 0]⟩) w2) ∧ ((!decide (x59 = 2)) = false →
 (0 : Int) ≤ 6 ∧ ∃ x62 : Int, IntKind.i64.wrap (c_1 * 2 ^ 6) = x62 ∧
 ∃ x65 : UInt8, ((0 : Int) ≤ i ∧ s[i.toNat]? = some x65) ∧
 ∃ x66 : Int, bits .and .u8 (x65.toNat : Int) 63 = x66 ∧
 ∃ x67 : Int, IntKind.i64.wrap x66 = x67 ∧
 ∃ x68 : Int, bits .or .i64 x62 x67 = x68 ∧
 ∃ x55 : Int, IntKind.i64.wrap (i + 1) = x55 ∧
 ∃ m_1, m_1 < m ∧ Ix m_1 x68 x55 w2)) ∧ (decide (i < nx) = false →
 (decide (c_1 < aa) = true →
 R (.tuple ⟨[.int .i64 0, .int .i64 0]⟩) w2) ∧ (decide (c_1 < aa) = false →
 (decide (1114111 < c_1) = true →
 R (.tuple ⟨[.int .i64 0, .int .i64 0]⟩) w2) ∧ (decide (1114111 < c_1) = false →
 (decide (55296 ≤ c_1) = true →
 (decide (c_1 < 57344) = true →
 R (.tuple ⟨[.int .i64 0, .int .i64 0]⟩) w2) ∧ (decide (c_1 < 57344) = false →
 R (.tuple ⟨[.int .i64 nx, .int .i64 c_1]⟩) w2)) ∧ (decide (55296 ≤ c_1) = false →
 R (.tuple ⟨[.int .i64 nx, .int .i64 c_1]⟩) w2))))))) → Kx c nx aa w1) →
 ∀ ab : Bool → World → Prop, (∀ x16 : Bool, ∀ w3,
 ((x16 = true →
 ∃ x24 : Int, bits .and .i64 x12 31 = x24 ∧
 Kx x24 2 128 w3) ∧ (x16 = false →
 ∀ ac : Bool → World → Prop, (∀ x25 : Bool, ∀ w4,
 ((x25 = true →
 ∃ x33 : Int, bits .and .i64 x12 15 = x33 ∧
 Kx x33 3 2048 w4) ∧ (x25 = false →
 (decide (240 ≤ x12) = true →
 (decide (x12 < 245) = true →
 ∃ x42 : Int, bits .and .i64 x12 7 = x42 ∧
 Kx x42 4 65536 w4) ∧ (decide (x12 < 245) = false →
 Kx x12 0 0 w4)) ∧ (decide (240 ≤ x12) = false →
 Kx x12 0 0 w4))) → ac x25 w4) →
 (decide (224 ≤ x12) = true →
 ac (decide (x12 < 240)) w3) ∧ (decide (224 ≤ x12) = false →
 ac false w3))) → ab x16 w3) →
 (decide (194 ≤ x12) = true →
 ab (decide (x12 < 224)) w) ∧ (decide (194 ≤ x12) = false →
 ab false w)))
def an48 : Ann :=
 .k .z
 (.k (.k .z
 (.cond 1 2 .zl .l))
 (.k .z
 (.k (.k .z
 (.cond 3 4 .zl .l))
 (.k .z
 (.cut [(4, .int .i64), (5, .int .i64), (6, .int .i64)] [0] (.block (.cut [(16, .bool)] [0, 4, 5, 6] (.t [.q, .q, .q, .gs .n 31 32])
 (.cond 21 22 .z (.cut [(25, .bool)] [0, 4, 5, 6] (.t [.q, .q, .q, .gs .n 29 30])
 (.cond 23 24 .z (.k (.t [.q, .q, .q, .gs .n 25 26])
 (.on 26 (.no .l) (.cond 27 28 .z .l))))))))
 (.k (.k (.t [.q, .q, .q, .gs .n 5 6])
 (.on 6 (.cond 7 8 .zl .l) (.yes .zl)))
 (.k (.k .z
 (.block (.loop [(4, .int .i64), (7, .int .i64)] [0, 5, 6] (.k (.k .z
 (.cond 9 10 .l .l))
 (.k (.block (.k (.k .z
 (.cond 11 12 .zl .l))
 .z))
 .z)))))
 (.k (.k (.t [.q, .q, .q, .q, .gs .n 13 14, .q, .q, .q, .on 14 (.gs .n 15 16) (.q), .q, .q, .on 16 (.gs .n 17 18) (.q)])
 (.on 18 (.no .l) (.on 17 (.cond 19 20 .zl .l) (.yes .zl))))
 .zl))))))))
theorem c48 (s : Bs) (w : World) (R : RR) (hvc : VC48 s w R) : CR 48 [.string (mkS s)] w R :=
 vcc (fn := f48) (ann := an48) hvc (by kernel_rfl) (by kernel_rfl)
def VC110 (s : Bs) (w : World) (R : RR) : Prop :=
 ∃ Ix : Nat → Int → World → Prop, (∃ m_2, Ix m_2 0 w) ∧
 ∀ m, ∀ i : Int, ∀ w1, Ix m i w1 →
 (decide (i < (s.length : Int)) = true →
 (0 ≤ i ∧ i ≤ (s.length : Int)) ∧
 Calls prog 48 ⟨[.string (mkS (s.drop i.toNat))]⟩ w1 fun e w2 => ∃ x14 aa : Int, e = .returned (.tuple ⟨[.int .i64 x14, .int .i64 aa]⟩) ∧
 (decide (x14 = 0) = true →
 R (.bool false) w2) ∧ (decide (x14 = 0) = false →
 ∃ x21 : Int, IntKind.i64.wrap (i + x14) = x21 ∧
 ∃ m_1, m_1 < m ∧ Ix m_1 x21 w2)) ∧ (decide (i < (s.length : Int)) = false →
 R (.bool true) w1)
def an110 : Ann :=
 .k .z
 (.k (.k .z
 (.block (.loop [(3, .int .i64)] [0] (.k (.k .z
 (.cond 1 2 .l .l))
 (.block (.k (.t [.q, .q, .q, .s [.int .i64, .int .i64]])
 (.k (.k .z
 (.cond 3 4 .zl .l))
 .z)))))))
 .zl)
theorem c110 (s : Bs) (w : World) (R : RR) (hvc : VC110 s w R) : CR 110 [.string (mkS s)] w R :=
 vcc (fn := f110) (ann := an110) hvc (by kernel_rfl) (by kernel_rfl)
def VC56 (s : Bs) (w : World) (R : RR) : Prop :=
 (decide ((s.length : Int) ≤ 300) = true →
 Calls prog 110 ⟨[.string (mkS s)]⟩ w fun e w1 => ∃ x8 : Bool, e = .returned (.bool x8) ∧
 R (.bool x8) w1) ∧ (decide ((s.length : Int) ≤ 300) = false →
 R (.bool false) w)
def an56 : Ann :=
 .k .z
 (.k (.t [.q, .q, .q, .q, .gs .n 1 2, .on 2 (.q) (.s [.bool])])
 .l)
theorem c56 (s : Bs) (w : World) (R : RR) (hvc : VC56 s w R) : CR 56 [.string (mkS s)] w R :=
 vcc (fn := f56) (ann := an56) hvc (by kernel_rfl) (by kernel_rfl)
def VC32 (b : Int) (w : World) (R : RR) : Prop :=
 ∃ f : List (Addr × Value), Kept w f ∧
 (0 : Int) ≤ 4 ∧ ∃ x4 : Int, Int.fdiv b (2 ^ 4) = x4 ∧
 ∃ x5 : UInt8, ((0 : Int) ≤ x4 ∧ [48, 49, 50, 51, 52, 53, 54, 55, 56, 57, 97, 98, 99, 100, 101, 102][x4.toNat]? = some x5) ∧
 ∃ x7 : Int, bits .and .u8 b 15 = x7 ∧
 ∃ x8 : UInt8, ((0 : Int) ≤ x7 ∧ [48, 49, 50, 51, 52, 53, 54, 55, 56, 57, 97, 98, 99, 100, 101, 102][x7.toNat]? = some x8) ∧
 ∀ w1, w1 = w.drew.alloc (.cells ⟨[.int .u8 (x5.toNat : Int), .int .u8 (x8.toNat : Int)]⟩ 5) →
 ∃ x10 : Bs, ∃ w2, (convert 23 9 (.slice (some (⟨w.drew.heap.size, 0, none⟩)) 2 2)).run prog w1 = .ok (.string (mkS x10)) w2 ∧
 R (.string (mkS x10)) w2
def an32 : Ann :=
 .k .z
 (.k (.reg (.held [6, 7] (.take 0 (.q) (.take 1 (.q) (.take 2 (.q) (.take 3 (.q) (.take 4 (.q) (.take 5 (.q) (.run 6 (.q) (.run 7 (.s [.str]) (.take 8 (.q) .done) .done) .done)))))))))
 .l)
theorem c32 (b : Int) (w : World) (R : RR) (hvc : VC32 b w R) : CR 32 [.int .u8 b] w R :=
 vcc (fn := f32) (ann := an32) hvc (by kernel_rfl) (by kernel_rfl)
end Go.Proofs.Tryz
set_option linter.unusedVariables false
namespace Go.Proofs.Tryz
open Go.Vc Go.RowKit
def stepC (c : Nat) (b : UInt8) : Nat := c * 64 + b.toNat % 64
def lead (a : Nat) : Nat × Nat × Nat :=
  if 194 ≤ a ∧ a < 224 then (2, a % 32, 128) else if 224 ≤ a ∧ a < 240 then (3, a % 16, 2048) else if 240 ≤ a ∧ a < 245 then (4, a % 8, 65536) else (0, a, 0)
def okC (c least : Nat) : Bool := decide (least ≤ c) && decide (c ≤ 1114111) && !(decide (55296 ≤ c) && decide (c < 57344))
def tailF (n c least : Nat) (s : List UInt8) : Nat × Nat :=
  if n = 0 ∨ s.length < n then (0, 0)
  else if ((s.take n).drop 1).all (fun b => b.toNat / 64 == 2) then
    if okC (((s.take n).drop 1).foldl stepC c) least then (n, ((s.take n).drop 1).foldl stepC c) else (0, 0)
  else (0, 0)
def runeF : List UInt8 → Nat × Nat
  | [] => (0, 0)
  | a :: r => if a.toNat < 128 then (1, a.toNat) else tailF (lead a.toNat).1 (lead a.toNat).2.1 (lead a.toNat).2.2 (a :: r)
theorem take_drop_succ (s : List UInt8) (i : Nat) (h0 : 1 ≤ i) (b : UInt8) (hb : s[i]? = some b) : (s.take (i + 1)).drop 1 = (s.take i).drop 1 ++ [b] := by
  rw [List.take_add_one, hb]
  rw [List.drop_append]
  have : i ≤ s.length := Nat.le_of_lt (List.getElem?_eq_some_iff.1 hb).1
  have : (1 - (List.take i s).length) = 0 := by rw [List.length_take]; omega
  rw [this]; rfl
theorem tail_loop (s : List UInt8) (w : World) (c0 n least : Nat) (hc : c0 < 32) (h2 : 2 ≤ n) (h4 : n ≤ 4) (hn : n ≤ s.length) (w1 : World) (hw : Keeps w w1)
    (R : Value → World → Prop) (hR : ∀ v w', v = .tuple ⟨[.int .i64 ((tailF n c0 least s).1 : Nat), .int .i64 ((tailF n c0 least s).2 : Nat)]⟩ → Keeps w w' → R v w') :
    ∃ Ix : Nat → Int → Int → World → Prop, (∃ m_2, Ix m_2 c0 1 w1) ∧
            ∀ m, ∀ c_1 : Int, ∀ i : Int, ∀ w2, Ix m c_1 i w2 →
            (decide (i < (n : Int)) = true →
              ∃ x58 : UInt8, ((0 : Int) ≤ i ∧ s[i.toNat]? = some x58) ∧ 
                (0 : Int) ≤ 6 ∧ ∃ x59 : Int, Int.fdiv (x58.toNat : Int) (2 ^ 6) = x59 ∧ 
                ((!decide (x59 = 2)) = true →
                R (.tuple ⟨[.int .i64 0, .int .i64 0]⟩) w2) ∧ ((!decide (x59 = 2)) = false →
                (0 : Int) ≤ 6 ∧ ∃ x62 : Int, IntKind.i64.wrap (c_1 * 2 ^ 6) = x62 ∧ 
                  ∃ x65 : UInt8, ((0 : Int) ≤ i ∧ s[i.toNat]? = some x65) ∧ 
                  ∃ x66 : Int, bits .and .u8 (x65.toNat : Int) 63 = x66 ∧ 
                  ∃ x67 : Int, IntKind.i64.wrap x66 = x67 ∧ 
                  ∃ x68 : Int, bits .or .i64 x62 x67 = x68 ∧ 
                  ∃ x55 : Int, IntKind.i64.wrap (i + 1) = x55 ∧ 
                  ∃ m_1, m_1 < m ∧ Ix m_1 x68 x55 w2)) ∧ (decide (i < (n : Int)) = false →
              (decide (c_1 < (least : Int)) = true →
                R (.tuple ⟨[.int .i64 0, .int .i64 0]⟩) w2) ∧ (decide (c_1 < (least : Int)) = false →
                (decide (1114111 < c_1) = true →
                  R (.tuple ⟨[.int .i64 0, .int .i64 0]⟩) w2) ∧ (decide (1114111 < c_1) = false →
                  (decide (55296 ≤ c_1) = true →
                    (decide (c_1 < 57344) = true →
                      R (.tuple ⟨[.int .i64 0, .int .i64 0]⟩) w2) ∧ (decide (c_1 < 57344) = false →
                      R (.tuple ⟨[.int .i64 (n : Int), .int .i64 c_1]⟩) w2)) ∧ (decide (55296 ≤ c_1) = false →
                    R (.tuple ⟨[.int .i64 (n : Int), .int .i64 c_1]⟩) w2)))) := by
  let tl : Nat → List UInt8 := fun k => (s.take k).drop 1
  refine ⟨fun m c i w' => Keeps w w' ∧ ∃ k : Nat, i = k ∧ 1 ≤ k ∧ k ≤ n ∧ m = n - k ∧ (tl k).all (fun b => b.toNat / 64 == 2) = true ∧ c = ((tl k).foldl stepC c0 : Nat) ∧ (tl k).foldl stepC c0 < 32 * 64 ^ (k - 1), ⟨n - 1, hw, 1, rfl, Nat.le_refl _, by omega, rfl, ?_, ?_, ?_⟩, ?_⟩
  · have : tl 1 = [] := by simp only [tl]; cases s <;> simp
    rw [this]; rfl
  · have : tl 1 = [] := by simp only [tl]; cases s <;> simp
    rw [this]; rfl
  · have : tl 1 = [] := by simp only [tl]; cases s <;> simp
    rw [this]; simpa using hc
  rintro m c i w2 ⟨hk2, k, rfl, h1k, hkn, rfl, hall, rfl, hlt⟩
  have hpow : 32 * 64 ^ (k - 1) ≤ 32 * 64 ^ 3 := Nat.mul_le_mul_left _ (Nat.pow_le_pow_right (by decide) (by omega))
  refine ⟨fun hd => ?_, fun hd => ?_⟩
  · simp only [decide_eq_true_eq] at hd
    have hkn' : k < n := by omega
    have hget : s[k]? = some (s[k]'(by omega)) := List.getElem?_eq_getElem (by omega)
    generalize hb : s[k]'(by omega) = b at hget
    have hb4 := b.toNat_lt
    refine ⟨b, ⟨by omega, by simpa using hget⟩, by decide, _, rfl, ?_⟩
    have hfd : Int.fdiv (b.toNat : Int) (2 ^ 6) = ((b.toNat / 64 : Nat) : Int) := fdiv_nat b.toNat 6
    rw [hfd]
    have hsucc := take_drop_succ s k h1k b hget
    refine ⟨fun hx => hR _ _ ?_ hk2, fun hx => ?_⟩
    · have hne : ¬ (b.toNat / 64 = 2) := by intro e; rw [e] at hx; simp at hx
      have hf : ((s.take n).drop 1).all (fun b => b.toNat / 64 == 2) = false := by
        rw [List.all_eq_false]
        refine ⟨b, ?_, by simpa using hne⟩
        rw [List.mem_drop_iff_getElem]
        refine ⟨k - 1, ?_, ?_⟩
        · rw [List.length_take]; omega
        · rw [List.getElem_take]
          have : k - 1 + 1 = k := by omega
          rw [← hb]; congr 1; omega
      unfold tailF
      rw [if_neg (by omega), hf]; rfl
    · have he : b.toNat / 64 = 2 := by
        simp only [Bool.not_eq_false', decide_eq_true_eq] at hx; omega
      have hall' : (tl (k + 1)).all (fun b => b.toNat / 64 == 2) = true := by
        show ((s.take (k + 1)).drop 1).all _ = true
        rw [hsucc, List.all_append]
        simp only [tl] at hall
        rw [hall]; simp [he]
      have hfold : (tl (k + 1)).foldl stepC c0 = stepC ((tl k).foldl stepC c0) b := by
        show ((s.take (k + 1)).drop 1).foldl stepC c0 = _
        rw [hsucc, List.foldl_append]; rfl
      generalize hC : (tl k).foldl stepC c0 = C at *
      have hClt : C < 8388608 := by omega
      refine ⟨by decide, _, rfl, b, ⟨by omega, by simpa using hget⟩, _, rfl, _, rfl, _, rfl, _, rfl, n - (k + 1), by omega, hk2, k + 1, ?_, by omega, by omega, rfl, hall', ?_, ?_⟩
      · rw [i64w (by omega) (by omega)]; omega
      · rw [hfold]
        have e1 : bits .and .u8 (b.toNat : Int) 63 = ((b.toNat % 64 : Nat) : Int) := by
          have := u8_and63 (x := (b.toNat : Int)) (by omega) (by omega)
          rw [this]; omega
        rw [e1, i64w (by omega) (by omega), i64w (by omega) (by omega)]
        unfold stepC
        have e2 := bits_join .i64 63 (by decide) (fun n h0 h1 => i64w (by omega) (by omega)) 6 ((C : Int) * 2 ^ 6) ((b.toNat % 64 : Nat) : Int) (by omega) (by omega) (by omega) (by omega) (by omega) (by omega)
        rw [e2]; omega
      · rw [hfold]
        unfold stepC
        have : 32 * 64 ^ (k + 1 - 1) = 32 * 64 ^ (k - 1) * 64 := by
          rw [Nat.mul_assoc, ← Nat.pow_succ]; congr 2; omega
        rw [this]; omega
  · simp only [decide_eq_false_iff_not] at hd
    have hkn' : k = n := by omega
    subst hkn'
    have hT : tailF k c0 least s = if okC ((tl k).foldl stepC c0) least then (k, (tl k).foldl stepC c0) else (0, 0) := by
      unfold tailF
      rw [if_neg (by omega)]
      simp only [tl] at hall ⊢
      rw [if_pos hall]
    generalize hC : (tl k).foldl stepC c0 = C at *
    have no : okC C least = false → ∀ v w', v = .tuple ⟨[.int .i64 0, .int .i64 0]⟩ → Keeps w w' → R v w' := fun h v w' hv hkw => hR _ _ (by rw [hv, hT, h]; rfl) hkw
    have yes : okC C least = true → ∀ v w', v = .tuple ⟨[.int .i64 (k : Int), .int .i64 (C : Int)]⟩ → Keeps w w' → R v w' := fun h v w' hv hkw => hR _ _ (by rw [hv, hT, h]; rfl) hkw
    refine ⟨fun hx => no ?_ _ _ rfl hk2, fun hx => ⟨fun hy => no ?_ _ _ rfl hk2, fun hy => ⟨fun hz => ⟨fun hu => no ?_ _ _ rfl hk2, fun hu => yes ?_ _ _ rfl hk2⟩, fun hz => yes ?_ _ _ rfl hk2⟩⟩⟩ <;>
      simp only [decide_eq_true_eq, decide_eq_false_iff_not] at * <;> unfold okC
    · have : ¬ least ≤ C := by omega
      simp [this]
    · have : ¬ C ≤ 1114111 := by omega
      simp [this]
    · have h1 : 55296 ≤ C := by omega
      have h2 : C < 57344 := by omega
      simp [h1, h2]
    · have h1 : ¬ C < 57344 := by omega
      have h2 : least ≤ C := by omega
      have h3 : C ≤ 1114111 := by omega
      simp [h1, h2, h3]
    · have h1 : ¬ 55296 ≤ C := by omega
      have h2 : least ≤ C := by omega
      have h3 : C ≤ 1114111 := by omega
      simp [h1, h2, h3]
theorem and31 (a : Nat) (h : a < 256) : bits .and .i64 (a : Int) 31 = ((a % 32 : Nat) : Int) := by
  have := i64_and_nat a 31 (by omega) (by decide)
  rw [show (31 : Nat) = 2 ^ 5 - 1 from rfl, Nat.and_two_pow_sub_one_eq_mod] at this
  exact this
theorem and15 (a : Nat) (h : a < 256) : bits .and .i64 (a : Int) 15 = ((a % 16 : Nat) : Int) := by
  have := i64_and_nat a 15 (by omega) (by decide)
  rw [show (15 : Nat) = 2 ^ 4 - 1 from rfl, Nat.and_two_pow_sub_one_eq_mod] at this
  exact this
theorem and7 (a : Nat) (h : a < 256) : bits .and .i64 (a : Int) 7 = ((a % 8 : Nat) : Int) := by
  have := i64_and_nat a 7 (by omega) (by decide)
  rw [show (7 : Nat) = 2 ^ 3 - 1 from rfl, Nat.and_two_pow_sub_one_eq_mod] at this
  exact this
theorem ret48 (s : List UInt8) (w : World) : Ret 48 [.string (mkS s)] w (.tuple ⟨[.int .i64 ((runeF s).1 : Nat), .int .i64 ((runeF s).2 : Nat)]⟩) := by
  refine Ret.of (c48 s w _ ?_)
  unfold VC48
  cases s with
  | nil => exact ⟨fun _ => ⟨rfl, Keeps.refl _⟩, fun h => by simp at h⟩
  | cons a r =>
    have ha := a.toNat_lt
    refine ⟨fun h => by simp at h, fun _ => ⟨a, ⟨by decide, rfl⟩, _, rfl, ?_⟩⟩
    rw [i64w (n := (a.toNat : Int)) (by omega) (by omega)]
    refine ⟨fun h => ?_, fun h => ?_⟩
    · simp only [decide_eq_true_eq] at h
      have hr : runeF (a :: r) = (1, a.toNat) := by rw [runeF]; exact if_pos (by omega)
      rw [hr]
      exact ⟨rfl, Keeps.refl _⟩
    · simp only [decide_eq_false_iff_not] at h
      have hrune : runeF (a :: r) = tailF (lead a.toNat).1 (lead a.toNat).2.1 (lead a.toNat).2.2 (a :: r) := by
        rw [runeF]; rw [if_neg (by omega)]
      rw [hrune]
      intro Kx hK
      have key : ∀ (c n least : Nat) (w1 : World), (n = 0 ∨ 2 ≤ n) → n ≤ 4 → (n = 0 ∨ c < 32) → Keeps w w1 → tailF (lead a.toNat).1 (lead a.toNat).2.1 (lead a.toNat).2.2 (a :: r) = tailF n c least (a :: r) → Kx c n least w1 := by
        intro c n least w1 hn0 hn4 hc hkw ht
        refine hK c n least w1 ?_
        rw [ht]
        refine ⟨fun h => ?_, fun h => ⟨fun h' => ?_, fun h' => ?_⟩⟩
        · simp only [decide_eq_true_eq] at h
          refine ⟨?_, hkw⟩
          unfold tailF; rw [if_pos (by omega)]; rfl
        · simp only [decide_eq_true_eq] at h'
          refine ⟨?_, hkw⟩
          unfold tailF; rw [if_pos (by omega)]; rfl
        · simp only [decide_eq_false_iff_not] at h h'
          exact tail_loop (a :: r) w c n least (by omega) (by omega) hn4 (by omega) w1 hkw (fun v w' => v = .tuple ⟨[.int .i64 ((tailF n c least (a :: r)).1 : Nat), .int .i64 ((tailF n c least (a :: r)).2 : Nat)]⟩ ∧ Keeps w w') (fun v w' hv hk => ⟨hv, hk⟩)
      have a2 := and31 a.toNat (by omega)
      have a3 := and15 a.toNat (by omega)
      have a4 := and7 a.toNat (by omega)
      intro K1 hK1
      have k1 : ∀ b w3, Keeps w w3 → b = decide (194 ≤ a.toNat ∧ a.toNat < 224) → K1 b w3 := by
        intro b w3 hw3 hb
        refine hK1 b w3 ⟨fun h => ⟨_, rfl, ?_⟩, fun h => ?_⟩
        · rw [h] at hb
          have hb : 194 ≤ a.toNat ∧ a.toNat < 224 := by simpa using hb.symm
          rw [a2]
          exact key _ 2 128 w3 (by omega) (by omega) (by omega) hw3 (by unfold lead; rw [if_pos hb])
        · rw [h] at hb
          have hb : ¬ (194 ≤ a.toNat ∧ a.toNat < 224) := by simpa using hb.symm
          intro K2 hK2
          have k2 : ∀ b w4, Keeps w w4 → b = decide (224 ≤ a.toNat ∧ a.toNat < 240) → K2 b w4 := by
            intro b w4 hw4 hb2
            refine hK2 b w4 ⟨fun h => ⟨_, rfl, ?_⟩, fun h => ?_⟩
            · rw [h] at hb2
              have hb2 : 224 ≤ a.toNat ∧ a.toNat < 240 := by simpa using hb2.symm
              rw [a3]
              exact key _ 3 2048 w4 (by omega) (by omega) (by omega) hw4 (by unfold lead; rw [if_neg hb, if_pos hb2])
            · rw [h] at hb2
              have hb2 : ¬ (224 ≤ a.toNat ∧ a.toNat < 240) := by simpa using hb2.symm
              refine ⟨fun h3 => ⟨fun h4 => ⟨_, rfl, ?_⟩, fun h4 => ?_⟩, fun h3 => ?_⟩ <;> simp only [decide_eq_true_eq, decide_eq_false_iff_not] at *
              · rw [a4]
                exact key _ 4 65536 w4 (by omega) (by omega) (by omega) hw4 (by unfold lead; rw [if_neg hb, if_neg hb2, if_pos (by omega)])
              · exact key _ 0 0 w4 (by omega) (by omega) (by omega) hw4 (by unfold lead; rw [if_neg hb, if_neg hb2, if_neg (by omega)])
              · exact key _ 0 0 w4 (by omega) (by omega) (by omega) hw4 (by unfold lead; rw [if_neg hb, if_neg hb2, if_neg (by omega)])
          refine ⟨fun h5 => k2 _ _ hw3 ?_, fun h5 => k2 _ _ hw3 ?_⟩ <;> simp only [decide_eq_true_eq, decide_eq_false_iff_not] at *
          · rw [decide_eq_decide]; omega
          · symm; simp only [decide_eq_false_iff_not]; omega
      refine ⟨fun h5 => k1 _ _ (Keeps.refl _) ?_, fun h5 => k1 _ _ (Keeps.refl _) ?_⟩ <;> simp only [decide_eq_true_eq, decide_eq_false_iff_not] at *
      · rw [decide_eq_decide]; omega
      · symm; simp only [decide_eq_false_iff_not]; omega
end Go.Proofs.Tryz
