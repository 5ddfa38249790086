/- Parts of a proof, joined: A6, VI, W1, Shelf, Shelf2, Ru, VK. -/
import Derived.Test.YtfofafjemgfobaaGreatDoorX6
import Derived.Test.YtfofafjemgfobaaGreatDoorX4
import Derived.Test.YtfofafjemgfobaaGreatDoorX5
import Derived.Laws.CopyRow
import Derived.Laws.MakeOwn
import Derived.Shelf.Strings.Builder1
import Derived.Shelf.Small.Utf8
import Derived.Shelf.Small.Bits
import Derived.Shelf.Strconv.Itoa0
import Derived.Shelf.Strconv.Itoa1
import Derived.Shelf.LaysM
import Derived.Shelf.Strconv.Itoa2
import Derived.Shelf.Strconv.Itoa3
import Derived.Ground.MnProg
import Derived.Shelf.Bin.LEUint32
import Derived.Shelf.Bin.LEUint64
import Derived.Shelf.Bin.ReadersZ
import Derived.Shelf.Unicode.Decode
import Derived.Shelf.Bits.Mul64
import Derived.Shelf.Unicode.DecodeSlow
import Derived.Shelf.Unicode.DecodeAny
import Derived.Test.YtfofafjemgfobaaGreatDoorProg
import Derived.Shelf.Bytes.BufferK
import Derived.Shelf.Bytes.WriteAny
import Derived.Shelf.Bytes.Bytes
import Derived.Shelf.Bytes.String
import Derived.Shelf.Hex.Tagged
import Derived.Lib.DecodeN
set_option linter.unusedVariables false
namespace Go.Proofs.Tryz
open Go.Vc Go.RowKit
def rowFacts (b o : Nat) (cs : List Value) : List (Addr × Value) := cs.zipIdx.map fun p => (⟨b, o + p.2, none⟩, p.1)
theorem mem_rowFacts {b o : Nat} {cs : List Value} {i : Nat} {v : Value} (h : cs[i]? = some v) : ((⟨b, o + i, none⟩ : Addr), v) ∈ rowFacts b o cs := by
  unfold rowFacts
  rw [List.mem_map]
  exact ⟨(v, i), List.mem_zipIdx_iff_getElem?.2 h, rfl⟩
theorem mem_rowFacts_add {b o : Nat} {cs : List Value} {i : Nat} {v : Value} (h : cs[i]? = some v) : ((⟨b, o, none⟩ : Addr).add i, v) ∈ rowFacts b o cs := by
  rw [add_at]; exact mem_rowFacts h
theorem kept_of {w : World} : ∀ {f : List (Addr × Value)}, (∀ p ∈ f, w.cell? p.1 = some p.2) → Kept w f
  | [], _ => trivial
  | [p], h => h p (by simp)
  | p :: q :: r, h => ⟨h p (by simp), kept_of fun x hx => h x (List.mem_cons_of_mem _ hx)⟩
theorem kept_keeps {w w' : World} {f : List (Addr × Value)} (h : Kept w f) (k : Keeps w w') : Kept w' f := kept_of fun p hp => k.cell (h.at p hp)
theorem kept_append {w : World} {f g : List (Addr × Value)} (h : Kept w f) (k : Kept w g) : Kept w (f ++ g) := kept_of fun p hp => by
  rcases List.mem_append.1 hp with hp | hp
  · exact h.at p hp
  · exact k.at p hp
theorem Lies.kept {w : World} {b o : Nat} {cs : List Value} (h : Lies w b o cs) : Kept w (rowFacts b o cs) := kept_of fun p hp => by
  unfold rowFacts at hp
  rw [List.mem_map] at hp
  obtain ⟨⟨v, i⟩, hx, rfl⟩ := hp
  exact h i v (List.mem_zipIdx_iff_getElem?.1 hx)
def coefN (h l : Int) : Nat := (h.toNat % 2 ^ 49) * 2 ^ 64 + l.toNat
def DecOK (h l : Int) : Prop := (h.toNat / 2 ^ 58 % 32 = 30 ∨ h.toNat / 2 ^ 58 % 32 = 31) ∨ (h.toNat / 2 ^ 61 % 4 ≠ 3 ∧ coefN h l < 10 ^ 34)
def lettersUp (s : List UInt8) : Prop := (∀ b ∈ s, 97 ≤ b.toNat ∧ b.toNat ≤ 122) ∧ sortedB s
def OwnFits (x : Val) : Prop := textF x.text = true ∧ textF x.more = true ∧ x.b.length ≤ 300 ∧ (x.kind = 12 → strF true x.text = 34 :: (x.text ++ [34])) ∧ (x.kind = 19 → DecOK x.high x.bits) ∧ (x.kind = 11 → lettersUp x.more)
def FitsV : Nat → Val → Prop
  | 0, x => OwnFits x ∧ x.kids = []
  | d + 1, x => OwnFits x ∧ ∀ n y, (n, y) ∈ x.kids → textF n = true ∧ FitsV d y
theorem FitsV.own {d : Nat} {x : Val} (h : FitsV d x) : OwnFits x := by
  cases d <;> exact h.1
theorem textF_len {s : List UInt8} (h : textF s = true) : s.length ≤ 300 := by
  unfold textF at h; simp only [Bool.and_eq_true, decide_eq_true_eq] at h; exact h.1
theorem textF_utf8 {s : List UInt8} (h : textF s = true) : utf8F s = true := by
  unfold textF at h; simp only [Bool.and_eq_true, decide_eq_true_eq] at h; exact h.2
def OwnRight (x : Val) : Prop := knownB x.kind = true ∧ (x.kind = 7 ∨ x.kind = 12 → x.b.length = 12) ∧ (x.kind = 8 → x.num = 0 ∨ x.num = 1) ∧ (x.kind = 16 → -2147483648 ≤ x.num ∧ x.num < 2147483648) ∧ (x.kind = 11 → plainB x.text = true) ∧ (x.kind = 5 → 0 ≤ x.num ∧ x.num ≤ 255)
def RightV : Nat → Val → Prop
  | 0, x => OwnRight x
  | d + 1, x => OwnRight x ∧ ((x.kind = 3 ∨ x.kind = 4 ∨ x.kind = 15) → ∀ n y, (n, y) ∈ x.kids → RightV d y)
def RetB (k : Nat) (args : List Value) (w : World) (P : Bool → Prop) : Prop := Calls prog k ⟨args⟩ w fun e w' => ∃ b, e = .returned (.bool b) ∧ P b ∧ Keeps w w'
theorem RetB.of {k : Nat} {args : List Value} {w : World} {P : Bool → Prop} (h : Calls prog k ⟨args⟩ w fun e w' => ∃ u, e = .returned u ∧ (∃ b, u = .bool b ∧ P b ∧ Keeps w w')) : RetB k args w P :=
  Calls.mono h fun e w' ⟨u, he, b, hu, hp, hk⟩ => ⟨b, by rw [he, hu], hp, hk⟩
theorem RetB.go {k : Nat} {args : List Value} {w : World} {P : Bool → Prop} (h : RetB k args w P) {Q : Ending → World → Prop} (hq : ∀ b w', P b → Keeps w w' → Q (.returned (.bool b)) w') : Calls prog k ⟨args⟩ w Q :=
  Calls.mono h fun e w' ⟨b, he, hp, hk⟩ => by rw [he]; exact hq b w' hp hk
theorem Hangs.kid {d : Nat} {w : World} {x : Val} {bp : Option Addr} {bc : Nat} {kp : Option Addr} {kc : Nat} (h : Hangs (d + 1) w x bp bc kp kc) {i : Nat} {n : List UInt8} {y : Val} (hi : x.kids[i]? = some (n, y)) :
    ∃ (ka : Addr) (bp' : Option Addr) (bc' : Nat) (kp' : Option Addr) (kc' : Nat), kp = some ka ∧
      LoadsRow prog 46 w (ka.add (i * 9)) (Value.string (mkS n) :: valCells y bp' bc' kp' kc') ∧ Hangs d w y bp' bc' kp' kc' := by
  obtain ⟨ka, bp', bc', kp', kc', h1, h2, h3⟩ := h.2 i n y hi
  exact ⟨ka, bp', bc', kp', kc', h1, ⟨n46, h2⟩, h3⟩
theorem FitsV.kid {d : Nat} {x : Val} (h : FitsV d x) {i : Nat} {n : List UInt8} {y : Val} (hi : x.kids[i]? = some (n, y)) : ∃ d', d = d' + 1 ∧ textF n = true ∧ FitsV d' y := by
  cases d with
  | zero => rw [h.2] at hi; simp at hi
  | succ d => exact ⟨d, rfl, h.2 n y (List.mem_of_getElem? hi)⟩
theorem ret60 : ∀ (d : Nat) (x : Val) (bp kp : Option Addr) (bc kc : Nat) (deep : Int) (w : World), Hangs d w x bp bc kp kc → FitsV d x → (d : Int) < deep → deep ≤ 200 →
    RetB 60 [.agg ⟨valCells x bp bc kp kc⟩, .int .i64 deep] w (fun b => b = true → RightV d x) := by
  intro d
  induction d using Nat.strongRecOn with
  | _ d ih =>
  intro x bp kp bc kc deep w hh hf hd1 hd2
  refine RetB.of (c60 _ _ _ _ _ _ _ _ _ _ _ _ deep w (fun u w' => ∃ b, u = .bool b ∧ (b = true → RightV d x) ∧ Keeps w w') ?_)
  unfold VC60
  intro w1 hw1
  have hk1 : Keeps w w1 := by rw [hw1]; exact (Keeps.refl w).alloc _
  have hv1 : Var w1 w.heap.size 26 (valCells x bp bc kp kc) := by rw [hw1]; exact var_alloc w _ 26
  have no : ∀ w', Keeps w w' → ∃ b, Value.bool false = .bool b ∧ (b = true → RightV d x) ∧ Keeps w w' := fun w' hk => ⟨false, rfl, (fun h => by cases h), hk⟩
  have hof := hf.own
  have hkl2 := hh.own.2.2.2.2.2.2.2
  refine ⟨x.kind, hv1.lies.at 0 rfl rfl, ?_⟩
  refine (ret113 x.kind w1).go fun w2 hk2 => ⟨_, rfl, fun h => no _ (hk1.trans hk2), fun hkn => ?_⟩
  have hkn : knownB x.kind = true := by simpa using hkn
  have hk2' := hk1.trans hk2
  have hv2 := hv1.keeps hk2
  refine ⟨fun h => no _ hk2', fun _ => ?_⟩
  refine ⟨_, _, _, _, _, _, _, _, _, _, _, _, hv2.lies.row n26, ?_⟩
  refine (ret114 x bp kp bc kc w2).mono fun e w3 ⟨cs, he, hr8, hk3⟩ => ⟨cs, he, fun w4 hw4 => ?_⟩
  obtain ⟨k8, t8, m8, n8, b8, h8, bp8, bn8, bc8, kp8, kn8, kc8, rfl⟩ := hr8
  obtain ⟨w5, hst, hk5, hs5, hv5x⟩ := store_new (t := 26) (cs := [.int .i64 k8, .string (mkS t8), .string (mkS m8), .int .i64 n8, .int .u64 b8, .int .u64 h8, .slice bp8 bn8 bc8, .slice kp8 kn8 kc8]) hw4 n26 rfl rfl rfl
  have hk3' := hk2'.trans hk3
  have hk5' := hk3'.trans hk5
  have hv5 := (hv2.keeps hk3).keeps hk5
  have hx5 := hv5x.lies
  refine ⟨w5, hst, t8, hx5.at 1 rfl rfl, fun _ => no _ hk5', fun _ => ⟨m8, hx5.at 2 rfl rfl, fun _ => no _ hk5', fun _ => ⟨n8, hx5.at 3 rfl rfl, fun _ => no _ hk5', fun _ => ⟨b8, hx5.at 4 rfl rfl, fun _ => no _ hk5', fun _ => ⟨h8, hx5.at 5 rfl rfl, fun _ => no _ hk5',
    fun _ => ⟨bp8, bn8, bc8, hx5.at 6 rfl rfl, fun _ => no _ hk5', fun _ => ⟨kp8, kn8, kc8, hx5.at 7 rfl rfl, fun _ => no _ hk5', fun _ => ?_⟩⟩⟩⟩⟩⟩⟩
  intro Kx hK
  -- what is right of its own, without the kids
  have right0 : OwnRight x → (x.kind = 3 ∨ x.kind = 4 ∨ x.kind = 15 → False) → RightV d x := fun h1 h2 => by
    cases d with
    | zero => exact h1
    | succ d => exact ⟨h1, fun h => (h2 h).elim⟩
  have kx : ∀ w6, Keeps w w6 → Var w6 w.heap.size 26 (valCells x bp bc kp kc) → OwnRight x → Kx w6 := by
    intro w6 hk6 hv6 hown
    refine hK w6 ⟨fun m i w7 => Keeps w w7 ∧ Var w7 w.heap.size 26 (valCells x bp bc kp kc) ∧ ∃ k : Nat, i = k ∧ k ≤ x.kids.length ∧ m = x.kids.length - k ∧ ∀ j n y, j < k → x.kids[j]? = some (n, y) → ∀ d', d = d' + 1 → RightV d' y,
      ⟨x.kids.length, hk6, hv6, 0, rfl, by omega, rfl, fun j n y hj => by omega⟩, ?_⟩
    rintro m i w7 ⟨hk7, hv7, k, rfl, hkl, rfl, hdone⟩
    refine ⟨kp, x.kids.length, kc, hv7.lies.at 7 rfl rfl, fun h => ?_, fun h => ?_⟩
    · simp only [decide_eq_true_eq] at h
      have hlt : k < x.kids.length := by omega
      have hget := List.getElem?_eq_getElem hlt
      rcases hny : x.kids[k]'hlt with ⟨n, y⟩
      rw [hny] at hget
      obtain ⟨d', hd', htn, hfy⟩ := hf.kid hget
      subst hd'
      obtain ⟨ka, bp', bc', kp', kc', hka, hrow, hhy⟩ := (hh.keeps hk7).kid hget
      have hkey : (k : Int).toNat = k := rfl
      refine ⟨kp, x.kids.length, kc, hv7.lies.at 7 rfl rfl, ⟨by omega, by omega⟩, ka, hka, _, _, _, _, _, _, _, _, _, _, _, _, _, hrow, fun w8 hw8 => ?_⟩
      obtain ⟨w9, hst9, hk9, hs9, hv9⟩ := store_new (t := 46) (cs := Value.string (mkS n) :: valCells y bp' bc' kp' kc') hw8 n46 rfl rfl rfl
      have hk9' := hk7.trans hk9
      have hv9x := hv7.keeps hk9
      refine ⟨w9, hst9, rowFacts w7.heap.size 0 (Value.string (mkS n) :: valCells y bp' bc' kp' kc') ++ rowFacts w.heap.size 0 (valCells x bp bc kp kc), ?_⟩
      have hkept : Kept w9 (rowFacts w7.heap.size 0 (Value.string (mkS n) :: valCells y bp' bc' kp' kc') ++ rowFacts w.heap.size 0 (valCells x bp bc kp kc)) := kept_append hv9.lies.kept hv9x.lies.kept
      have mem1 : ∀ (j : Nat) (v : Value), (Value.string (mkS n) :: valCells y bp' bc' kp' kc')[j]? = some v → ((⟨w7.heap.size, j, none⟩ : Addr), v) ∈ (rowFacts w7.heap.size 0 (Value.string (mkS n) :: valCells y bp' bc' kp' kc') ++ rowFacts w.heap.size 0 (valCells x bp bc kp kc)) := fun j v hj =>
        List.mem_append_left _ (by have := mem_rowFacts (b := w7.heap.size) (o := 0) hj; rwa [Nat.zero_add] at this)
      have mem2 : ((⟨w.heap.size, 0, none⟩ : Addr), Value.int .i64 x.kind) ∈ (rowFacts w7.heap.size 0 (Value.string (mkS n) :: valCells y bp' bc' kp' kc') ++ rowFacts w.heap.size 0 (valCells x bp bc kp kc)) :=
        List.mem_append_right _ (mem_rowFacts (o := 0) (i := 0) rfl)
      refine ⟨hkept, n, mem1 0 _ rfl, ?_⟩
      have hpl := ret115 n w9.drew (by have := textF_len htn; omega)
      refine hpl.go fun w10 hk10 => ⟨_, rfl, kept_keeps hkept (Keeps.trans (Keeps.refl w9).drew hk10), ?_⟩
      have hk10' : Keeps w9 w10 := Keeps.trans (Keeps.refl w9).drew hk10
      have hkw10 := hk9'.trans hk10'
      have hkept10 := kept_keeps hkept hk10'
      -- the kid itself
      have kid : ∀ w11, Keeps w9 w11 → (Calls prog 60 ⟨[.agg ⟨valCells y bp' bc' kp' kc'⟩, .int .i64 (deep - 1)]⟩ w11 fun e w12 => ∃ x135 : Bool, e = .returned (.bool x135) ∧ 
                                ((!x135) = true → ∃ b, Value.bool false = .bool b ∧ (b = true → RightV (d' + 1) x) ∧ Keeps w w12) ∧ ((!x135) = false →
                                ∃ x108 : Int, IntKind.i64.wrap ((k : Int) + 1) = x108 ∧ 
                                  ∃ m_1, m_1 < x.kids.length - k ∧ (Keeps w w12 ∧ Var w12 w.heap.size 26 (valCells x bp bc kp kc) ∧ ∃ k' : Nat, x108 = k' ∧ k' ≤ x.kids.length ∧ m_1 = x.kids.length - k' ∧ ∀ j n y, j < k' → x.kids[j]? = some (n, y) → ∀ d'', d' + 1 = d'' + 1 → RightV d'' y))) := by
        intro w11 hk11
        refine (ih d' (by omega) y bp' kp' bc' kc' (deep - 1) w11 ((hhy.keeps hk9).keeps hk11) hfy (by omega) (by omega)).go fun b w12 hb hk12 => ⟨b, rfl, fun _ => no _ ((hk9'.trans hk11).trans hk12), fun hb' => ⟨_, i64w (by omega) (by omega), x.kids.length - (k + 1), by omega, (hk9'.trans hk11).trans hk12, (hv9x.keeps hk11).keeps hk12, k + 1, by omega, by omega, rfl, ?_⟩⟩
        intro j n' y' hj hjy d'' hd''
        have hdd : d' = d'' := by omega
        subst hdd
        by_cases hjk : j < k
        · exact hdone j n' y' hjk hjy d' rfl
        · have : j = k := by omega
          subst this
          rw [hget] at hjy
          cases hjy
          exact hb (by simpa using hb')
      refine ⟨fun _ => ⟨hkept10, no _ hkw10⟩, fun _ => ⟨x.kind, mem2, fun h4 => ?_, fun h4 => ⟨hkept10, ?_⟩⟩⟩
      · refine ⟨n, mem1 0 _ rfl, ?_⟩
        obtain ⟨t, _, hdig⟩ := ret116 (k + 1) k (by omega) (by omega) (by omega) (by omega)
        refine (hdig w10).go fun w11 hk11 => ⟨_, rfl, kept_keeps hkept10 hk11, fun _ => no _ (hkw10.trans hk11), fun _ => ?_⟩
        exact ⟨_, _, _, _, _, _, _, _, _, _, _, _, ⟨n26, fun i v hi => by rw [add_at]; exact mem1 (1 + i) v (by rw [Nat.add_comm]; exact hi)⟩, _, i64w (n := deep - 1) (by omega) (by omega), kid w11 (hk10'.trans hk11)⟩
      · exact ⟨_, _, _, _, _, _, _, _, _, _, _, _, ⟨n26, fun i v hi => by rw [add_at]; exact mem1 (1 + i) v (by rw [Nat.add_comm]; exact hi)⟩, _, i64w (n := deep - 1) (by omega) (by omega), kid w10 hk10'⟩
    · simp only [decide_eq_false_iff_not] at h
      refine ⟨true, rfl, fun _ => ?_, hk7⟩
      cases d with
      | zero => exact hown
      | succ d' =>
        refine ⟨hown, fun _ n y hm => ?_⟩
        obtain ⟨j, hj⟩ := List.mem_iff_getElem?.1 hm
        have hjl := (List.getElem?_eq_some_iff.1 hj).1
        exact hdone j n y (by omega) hj d' rfl
  refine ⟨x.kind, hv5.lies.at 0 rfl rfl, fun h5 => ?_, fun h5 => ?_⟩
  · simp only [decide_eq_true_eq] at h5
    refine ⟨x.num, hv5.lies.at 3 rfl rfl, fun hge => ⟨x.num, hv5.lies.at 3 rfl rfl, _, rfl, fun hle => right0 ⟨hkn, by omega, by omega, by omega, fun e => by omega, fun _ => ⟨of_decide_eq_true hge, of_decide_eq_true hle⟩⟩ (by omega), hk5'⟩, fun _ => no _ hk5'⟩
  · simp only [decide_eq_false_iff_not] at h5
    intro K1 hK1
    have k1 : ∀ b, (b = true ↔ x.kind = 7 ∨ x.kind = 12) → K1 b w5 := by
      intro b hb
      refine hK1 b w5 ⟨fun h => ?_, fun h => ⟨fun h8 => ?_, fun h8 => ⟨fun h16 => ?_, fun h16 => ⟨fun h11 => ?_, fun h11 => ?_⟩⟩⟩⟩
      · refine ⟨bp, x.b.length, bc, hv5.lies.at 6 rfl rfl, _, rfl, fun h12 => ?_, hk5'⟩
        simp only [decide_eq_true_eq] at h12
        have := hb.1 h
        exact right0 ⟨hkn, fun _ => by omega, by omega, by omega, fun e => by omega, fun e => by omega⟩ (by omega)
      · have h7 : ¬ (x.kind = 7 ∨ x.kind = 12) := fun e => by rw [hb.2 e] at h; cases h
        simp only [decide_eq_true_eq] at h8
        refine ⟨x.num, hv5.lies.at 3 rfl rfl, fun h0 => ⟨true, rfl, fun _ => ?_, hk5'⟩, fun h0 => ⟨x.num, hv5.lies.at 3 rfl rfl, _, rfl, fun h1 => ?_, hk5'⟩⟩
        · simp only [decide_eq_true_eq] at h0
          exact right0 ⟨hkn, fun e => (h7 e).elim, fun _ => .inl h0, by omega, fun e => by omega, fun e => by omega⟩ (by omega)
        · simp only [decide_eq_true_eq] at h1
          exact right0 ⟨hkn, fun e => (h7 e).elim, fun _ => .inr h1, by omega, fun e => by omega, fun e => by omega⟩ (by omega)
      · have h7 : ¬ (x.kind = 7 ∨ x.kind = 12) := fun e => by rw [hb.2 e] at h; cases h
        simp only [decide_eq_true_eq, decide_eq_false_iff_not] at h8 h16
        refine ⟨x.num, hv5.lies.at 3 rfl rfl, fun h0 => ⟨x.num, hv5.lies.at 3 rfl rfl, _, rfl, fun h1 => ?_, hk5'⟩, fun h0 => no _ hk5'⟩
        simp only [decide_eq_true_eq] at h0 h1
        exact right0 ⟨hkn, fun e => (h7 e).elim, by omega, fun _ => ⟨by omega, by omega⟩, fun e => by omega, fun e => by omega⟩ (by omega)
      · have h7 : ¬ (x.kind = 7 ∨ x.kind = 12) := fun e => by rw [hb.2 e] at h; cases h
        simp only [decide_eq_true_eq, decide_eq_false_iff_not] at h8 h16 h11
        have hb1 := ret115 x.text w5 (by have := textF_len hof.1; omega)
        refine ⟨x.text, hv5.lies.at 1 rfl rfl, ?_⟩
        refine hb1.go fun w15 hk15 => ⟨_, rfl, fun hpt => ⟨x.more, (hv5.keeps hk15).lies.at 2 rfl rfl, ?_⟩, fun _ => no _ (hk5'.trans hk15)⟩
        have hb2 := ret115 x.more w15 (by have := textF_len hof.2.1; omega)
        exact hb2.go fun w16 hk16 => ⟨_, rfl, _, rfl, fun _ => right0 ⟨hkn, fun e => (h7 e).elim, by omega, by omega, fun _ => hpt, fun e => by omega⟩ (by omega), (hk5'.trans hk15).trans hk16⟩
      · have h7 : ¬ (x.kind = 7 ∨ x.kind = 12) := fun e => by rw [hb.2 e] at h; cases h
        simp only [decide_eq_false_iff_not] at h8 h16 h11
        exact kx w5 hk5' hv5 ⟨hkn, fun e => (h7 e).elim, by omega, by omega, fun e => by omega, fun e => by omega⟩
    refine ⟨fun h => k1 _ ?_, fun h => k1 _ ?_⟩ <;> simp only [decide_eq_true_eq, decide_eq_false_iff_not] at * <;> omega
end Go.Proofs.Tryz
set_option linter.unusedVariables false
set_option maxRecDepth 100000
namespace Go.Proofs.Tryz
open Go.Vc
def VC39 (wx : Addr) (aa : Bool) (ab : Bool) (w : World) (R : RR) : Prop :=
 Calls prog 67 ⟨[.iface 72 (.pointer (some wx)), .bool aa, .bool ab, .bool true]⟩ w fun e w1 => ∃ x10 : Ptr, e = .returned (.pointer x10) ∧
 R (.pointer x10) w1
def an39 : Ann :=
 .k .z
 (.k (.t [.q, .q, .q, .s [.ptr]])
 .l)
theorem c39 (wx : Addr) (aa : Bool) (ab : Bool) (w : World) (R : RR) (hvc : VC39 wx aa ab w R) : CR 39 [.iface 72 (.pointer (some wx)), .bool aa, .bool ab] w R :=
 vcc (fn := f39) (ann := an39) hvc (by kernel_rfl) (by kernel_rfl)
end Go.Proofs.Tryz
set_option linter.unusedVariables false
namespace Go.Proofs.Tryz
open Go.Vc Go.RowKit
structure Fr (B : Nat) (w w' : World) : Prop where
  below : Below B w w'
  tags : ∀ (g t : Nat) (cs : List Value), t ≠ 5 → t ≠ 112 → t ≠ 115 → Var w g t cs → Var w' g t cs
theorem Fr.refl (B : Nat) (w : World) : Fr B w w := ⟨Below.refl _ _, fun _ _ _ _ _ _ h => h⟩
theorem Fr.trans {B : Nat} {a b c : World} (h : Fr B a b) (k : Fr B b c) : Fr B a c := ⟨Below.trans h.below k.below, fun g t cs h1 h2 h3 hv => k.tags g t cs h1 h2 h3 (h.tags g t cs h1 h2 h3 hv)⟩
theorem Gr.fr {B : Nat} {a b : World} (h : Gr B a b) : Fr B a b := ⟨h.below, fun g t cs h1 _ _ hv => h.tagd g t cs h1 hv⟩
theorem Keeps.fr {B : Nat} {a b : World} (h : Keeps a b) (hB : B ≤ a.heap.size) : Fr B a b := (Gr.of h hB).fr
theorem Fr.size {B : Nat} {a b : World} (h : Fr B a b) : a.heap.size ≤ b.heap.size := Below.size h.below
theorem var_ne {w : World} {g g' t t' : Nat} {cs cs' : List Value} (h : Var w g t cs) (k : Var w g' t' cs') (ht : t ≠ t') : g ≠ g' := by
  rintro rfl
  unfold Var at h k
  rw [h] at k
  simp only [Option.some.injEq, Obj.cells.injEq] at k
  exact ht k.2.1
section
variable {B : Nat} {w : World} {a : Nat} {wx : Addr} {can esc : Bool} {buf : List UInt8} {ms : List Int} {fr : Nat} {bp : Option Addr} {bn bc sg sn sc : Nat} {cs : List Value}
end
end Go.Proofs.Tryz
namespace Go.Proofs
open Go.Shelf
def Tryz.lays170_ren : Go.Shelf.Ren := ⟨fun | 170 => 75 | n => n, fun | 70 => 126 | 3 => 3 | 0 => 0 | 72 => 128 | 37 => 23 | 5 => 5 | n => n, fun | n => n⟩
theorem Tryz.lays170 : Go.Proofs.Lays.n170 Tryz.prog Tryz.lays170_ren := {
  mixed := by kernel_rfl
  f170 := Tryz.func75.trans (congrArg some (by kernel_rfl))
  t0 := Tryz.underlying0
  a0 := Tryz.isAgg0
  z0 := Tryz.sizeOf0
  v0 := Tryz.zeroValue0
  t3 := Tryz.underlying3
  a3 := Tryz.isAgg3
  z3 := Tryz.sizeOf3
  v3 := Tryz.zeroValue3
  t37 := Tryz.underlying23
  a37 := Tryz.isAgg23
  z37 := Tryz.sizeOf23
  v37 := Tryz.zeroValue23
  t70 := Tryz.underlying126
  a70 := Tryz.isAgg126
  z70 := Tryz.sizeOf126
  v70 := Tryz.zeroValue126
  t72 := Tryz.underlying128
  a72 := Tryz.isAgg128
  z72 := Tryz.sizeOf128
  v72 := Tryz.zeroValue128 }
open Go.RowKit in
theorem Tryz.Builder_Len (B b : Nat) (bs : List Value) (w : World) (h : Lib.IsBuilder 128 5 B b bs w) :
    Calls Tryz.prog 75 #[.pointer (some ⟨b, 0, none⟩)] w fun e w' => e = .returned (.int .i64 bs.length) ∧ w' = w := Any.Builder_Len Tryz.lays170 B b bs w h
def Tryz.lays169_ren : Go.Shelf.Ren := ⟨fun | 169 => 79 | n => n, fun | 70 => 126 | 9 => 9 | 0 => 0 | 72 => 128 | 37 => 23 | 127 => 196 | 3 => 3 | 5 => 5 | n => n, fun | n => n⟩
theorem Tryz.lays169 : Go.Proofs.Lays.n169 Tryz.prog Tryz.lays169_ren := {
  mixed := by kernel_rfl
  f169 := Tryz.func79.trans (congrArg some (by kernel_rfl))
  t0 := Tryz.underlying0
  a0 := Tryz.isAgg0
  z0 := Tryz.sizeOf0
  v0 := Tryz.zeroValue0
  t3 := Tryz.underlying3
  a3 := Tryz.isAgg3
  z3 := Tryz.sizeOf3
  v3 := Tryz.zeroValue3
  t9 := Tryz.underlying9
  a9 := Tryz.isAgg9
  z9 := Tryz.sizeOf9
  v9 := Tryz.zeroValue9
  t37 := Tryz.underlying23
  a37 := Tryz.isAgg23
  z37 := Tryz.sizeOf23
  v37 := Tryz.zeroValue23
  t70 := Tryz.underlying126
  a70 := Tryz.isAgg126
  z70 := Tryz.sizeOf126
  v70 := Tryz.zeroValue126
  t72 := Tryz.underlying128
  a72 := Tryz.isAgg128
  z72 := Tryz.sizeOf128
  v72 := Tryz.zeroValue128
  t127 := Tryz.underlying196
  a127 := Tryz.isAgg196
  z127 := Tryz.sizeOf196
  v127 := Tryz.zeroValue196 }
theorem Tryz.Builder_Extra_169 : Builder.Extra Tryz.prog Tryz.lays169_ren := {
  sizeBuilder := by kernel_rfl
  liesBuilder := by kernel_rfl
  t5 := Tryz.underlying5
  a5 := Tryz.isAgg5
  z5 := Tryz.sizeOf5
  v5 := Tryz.zeroValue5
  infoByte := by kernel_rfl
  cellsByte := by kernel_rfl
  sizeByte := by kernel_rfl
  neB5 := by decide }
open Go.RowKit in
theorem Tryz.Builder_String_any (B b : Nat) (l : List UInt8) (w : World) (h : Lib.IsBuilder 128 5 B b (Lib.byteCells l) w) (hBw : B ≤ w.heap.size) :
    Calls Tryz.prog 79 #[.pointer (some ⟨b, 0, none⟩)] w fun e w' => e = .returned (.string ⟨l.toArray⟩) ∧ Below B w w' := Any.Builder_String_any Tryz.lays169 Tryz.Builder_Extra_169 B b l w h hBw
def Tryz.lays129_ren : Go.Shelf.Ren := ⟨fun | 129 => 173 | n => n, fun | 53 => 22 | 3 => 3 | 4 => 4 | 46 => 61 | 5 => 5 | 9 => 9 | n => n, fun | n => n⟩
theorem Tryz.lays129 : Go.Proofs.Lays.n129 Tryz.prog Tryz.lays129_ren := {
  mixed := by kernel_rfl
  f129 := Tryz.func173.trans (congrArg some (by kernel_rfl))
  t3 := Tryz.underlying3
  a3 := Tryz.isAgg3
  z3 := Tryz.sizeOf3
  v3 := Tryz.zeroValue3
  t4 := Tryz.underlying4
  a4 := Tryz.isAgg4
  z4 := Tryz.sizeOf4
  v4 := Tryz.zeroValue4
  t5 := Tryz.underlying5
  a5 := Tryz.isAgg5
  z5 := Tryz.sizeOf5
  v5 := Tryz.zeroValue5
  t9 := Tryz.underlying9
  a9 := Tryz.isAgg9
  z9 := Tryz.sizeOf9
  v9 := Tryz.zeroValue9
  t46 := Tryz.underlying61
  a46 := Tryz.isAgg61
  z46 := Tryz.sizeOf61
  v46 := Tryz.zeroValue61
  t53 := Tryz.underlying22
  a53 := Tryz.isAgg22
  z53 := Tryz.sizeOf22
  v53 := Tryz.zeroValue22 }
theorem Tryz.bits_Len64 (x : Int) (w : World) (h0 : 0 ≤ x) (h1 : x ≤ 18446744073709551615) :
    Calls Tryz.prog 173 #[.int .u64 x] w fun e w' => e = .returned (.int .i64 (Lib.bitLen x.toNat)) ∧ w' = w := Any.bits_Len64 Tryz.lays129 x w h0 h1
def Tryz.lays318_ren : Go.Shelf.Ren := ⟨fun | 318 => 174 | n => n, fun | 3 => 3 | 4 => 4 | n => n, fun | n => n⟩
theorem Tryz.lays318 : Go.Proofs.Lays.n318 Tryz.prog Tryz.lays318_ren := {
  mixed := by kernel_rfl
  f318 := Tryz.func174.trans (congrArg some (by kernel_rfl))
  t3 := Tryz.underlying3
  a3 := Tryz.isAgg3
  z3 := Tryz.sizeOf3
  v3 := Tryz.zeroValue3
  t4 := Tryz.underlying4
  a4 := Tryz.isAgg4
  z4 := Tryz.sizeOf4
  v4 := Tryz.zeroValue4 }
open Go.Lib in
theorem Tryz.internal_strconv_bool2_int (b : Bool) (w : World) :
    Calls Tryz.prog 174 #[.bool b] w fun e w' => e = .returned (.int .i64 (if b then 1 else 0)) ∧ w' = w := Any.internal_strconv_bool2_int Tryz.lays318 b w
def Tryz.lays283_ren : Go.Shelf.Ren := ⟨fun | 283 => 118 | n => n, fun | 3 => 3 | 9 => 9 | 4 => 4 | n => n, fun | n => n⟩
theorem Tryz.lays283 : Go.Proofs.Lays.n283 Tryz.prog Tryz.lays283_ren := {
  mixed := by kernel_rfl
  f283 := Tryz.func118.trans (congrArg some (by kernel_rfl))
  t3 := Tryz.underlying3
  a3 := Tryz.isAgg3
  z3 := Tryz.sizeOf3
  v3 := Tryz.zeroValue3
  t4 := Tryz.underlying4
  a4 := Tryz.isAgg4
  z4 := Tryz.sizeOf4
  v4 := Tryz.zeroValue4
  t9 := Tryz.underlying9
  a9 := Tryz.isAgg9
  z9 := Tryz.sizeOf9
  v9 := Tryz.zeroValue9 }
open Go.Lib in
theorem Tryz.internal_strconv_small (i : Nat) (h : i < 100) (w : World) :
    Calls Tryz.prog 118 #[.int .i64 i] w fun e w' => e = .returned (.string ⟨(Lib.decDigits i).toArray⟩) ∧ w' = w := Any.internal_strconv_small Tryz.lays283 i h w
def Tryz.laysM284_ren : Go.Shelf.Ren := ⟨fun | 284 => 119 | 129 => 173 | 317 => 172 | 318 => 174 | n => n, fun | 53 => 22 | 3 => 3 | 212 => 244 | 0 => 0 | 4 => 4 | 46 => 61 | 5 => 5 | 9 => 9 | n => n, fun | 17 => 4 | n => n⟩
theorem Tryz.laysM284 : Go.Proofs.LaysM.n284 Tryz.prog Tryz.laysM284_ren := {
  mixed := by kernel_rfl
  f129 := Tryz.func173.trans (congrArg some (by kernel_rfl))
  f284 := Tryz.func119.trans (congrArg some (by kernel_rfl))
  f317 := Tryz.func172.trans (congrArg some (by kernel_rfl))
  f318 := Tryz.func174.trans (congrArg some (by kernel_rfl))
  t0 := Tryz.underlying0
  a0 := Tryz.isAgg0
  z0 := Tryz.sizeOf0
  v0 := Tryz.zeroValue0
  t3 := Tryz.underlying3
  a3 := Tryz.isAgg3
  z3 := Tryz.sizeOf3
  v3 := Tryz.zeroValue3
  t4 := Tryz.underlying4
  a4 := Tryz.isAgg4
  z4 := Tryz.sizeOf4
  v4 := Tryz.zeroValue4
  t5 := Tryz.underlying5
  a5 := Tryz.isAgg5
  z5 := Tryz.sizeOf5
  v5 := Tryz.zeroValue5
  t9 := Tryz.underlying9
  a9 := Tryz.isAgg9
  z9 := Tryz.sizeOf9
  v9 := Tryz.zeroValue9
  t46 := Tryz.underlying61
  a46 := Tryz.isAgg61
  z46 := Tryz.sizeOf61
  v46 := Tryz.zeroValue61
  t53 := Tryz.underlying22
  a53 := Tryz.isAgg22
  z53 := Tryz.sizeOf22
  v53 := Tryz.zeroValue22
  t212 := Tryz.underlying244
  a212 := Tryz.isAgg244
  z212 := Tryz.sizeOf244
  v212 := Tryz.zeroValue244
  g17 := by kernel_rfl
  i0 := by kernel_rfl
  i3 := by kernel_rfl
  i4 := by kernel_rfl
  i5 := by kernel_rfl
  i9 := by kernel_rfl
  i46 := by kernel_rfl
  i53 := by kernel_rfl
  i212 := by kernel_rfl
  m17 := by kernel_rfl }
open Go.Lib in
theorem Tryz.internal_strconv_numDigits (u : Nat) (h1 : 1 ≤ u) (h2 : u < 18446744073709551616) (w : World) (htab : Lib.TabIs Tryz.prog w "internal/strconv.uint64pow10" .u64 Lib.pow10Tab) :
    Calls Tryz.prog 119 #[.int .u64 u] w fun e w' => e = .returned (.int .i64 (Lib.nDigits u)) ∧ w' = w := Any.internal_strconv_numDigits Tryz.laysM284 u h1 h2 w htab
def Tryz.lays285_ren : Go.Shelf.Ren := ⟨fun | 285 => 120 | n => n, fun | 37 => 23 | 53 => 22 | 3 => 3 | 4 => 4 | 51 => 164 | 9 => 9 | 5 => 5 | 0 => 0 | n => n, fun | n => n⟩
theorem Tryz.lays285 : Go.Proofs.Lays.n285 Tryz.prog Tryz.lays285_ren := {
  mixed := by kernel_rfl
  f285 := Tryz.func120.trans (congrArg some (by kernel_rfl))
  t0 := Tryz.underlying0
  a0 := Tryz.isAgg0
  z0 := Tryz.sizeOf0
  v0 := Tryz.zeroValue0
  t3 := Tryz.underlying3
  a3 := Tryz.isAgg3
  z3 := Tryz.sizeOf3
  v3 := Tryz.zeroValue3
  t4 := Tryz.underlying4
  a4 := Tryz.isAgg4
  z4 := Tryz.sizeOf4
  v4 := Tryz.zeroValue4
  t5 := Tryz.underlying5
  a5 := Tryz.isAgg5
  z5 := Tryz.sizeOf5
  v5 := Tryz.zeroValue5
  t9 := Tryz.underlying9
  a9 := Tryz.isAgg9
  z9 := Tryz.sizeOf9
  v9 := Tryz.zeroValue9
  t37 := Tryz.underlying23
  a37 := Tryz.isAgg23
  z37 := Tryz.sizeOf23
  v37 := Tryz.zeroValue23
  t51 := Tryz.underlying164
  a51 := Tryz.isAgg164
  z51 := Tryz.sizeOf164
  v51 := Tryz.zeroValue164
  t53 := Tryz.underlying22
  a53 := Tryz.isAgg22
  z53 := Tryz.sizeOf22
  v53 := Tryz.zeroValue22 }
open Go.RowKit Go.Sort Go.Lib in
theorem Tryz.internal_strconv_formatBase10 (blk off cap : Nat) (u : Nat) (d : Array UInt8) (w : World) (hH : Holds (fun (b : UInt8) => Value.int .u8 (b.toNat : Int)) w blk off d) (hu : u < 10 ^ d.size) (hu64 : u < 18446744073709551616) (hsz : d.size < 4611686018427387904) :
    Calls Tryz.prog 120 #[.slice (some ⟨blk, off, none⟩) d.size cap, .int .u64 u] w fun e w' =>
      e = .returned (.tuple #[]) ∧ ∃ (n v' : Nat) (dk : Array UInt8), w' = (putRow (fun (b : UInt8) => Value.int .u8 (b.toNat : Int)) w blk off dk).drewN n ∧ FmtInv d.size u 0 v' dk := Any.internal_strconv_formatBase10 Tryz.lays285 blk off cap u d w hH hu hu64 hsz
def Tryz.laysM246_ren : Go.Shelf.Ren := ⟨fun | 246 => 63 | 283 => 118 | 284 => 119 | 285 => 120 | 286 => 121 | 129 => 173 | 317 => 172 | 318 => 174 | 319 => 175 | 320 => 176 | 337 => 229 | 338 => 230 | n => n, fun | 2 => 2 | 3 => 3 | 9 => 9 | 4 => 4 | 171 => 174 | 0 => 0 | 53 => 22 | 37 => 23 | 5 => 5 | 173 => 177 | 212 => 244 | 51 => 164 | 20 => 20 | 213 => 245 | 46 => 61 | 232 => 294 | 233 => 280 | n => n, fun | 17 => 4 | 18 => 13 | 19 => 14 | n => n⟩
theorem Tryz.laysM246 : Go.Proofs.LaysM.n246 Tryz.prog Tryz.laysM246_ren := {
  mixed := by kernel_rfl
  f129 := Tryz.func173.trans (congrArg some (by kernel_rfl))
  f246 := Tryz.func63.trans (congrArg some (by kernel_rfl))
  f283 := Tryz.func118.trans (congrArg some (by kernel_rfl))
  f284 := Tryz.func119.trans (congrArg some (by kernel_rfl))
  f285 := Tryz.func120.trans (congrArg some (by kernel_rfl))
  f286 := Tryz.func121.trans (congrArg some (by kernel_rfl))
  f317 := Tryz.func172.trans (congrArg some (by kernel_rfl))
  f318 := Tryz.func174.trans (congrArg some (by kernel_rfl))
  f319 := Tryz.func175.trans (congrArg some (by kernel_rfl))
  f320 := Tryz.func176.trans (congrArg some (by kernel_rfl))
  f337 := Tryz.func229.trans (congrArg some (by kernel_rfl))
  f338 := Tryz.func230.trans (congrArg some (by kernel_rfl))
  t0 := Tryz.underlying0
  a0 := Tryz.isAgg0
  z0 := Tryz.sizeOf0
  v0 := Tryz.zeroValue0
  t2 := Tryz.underlying2
  a2 := Tryz.isAgg2
  z2 := Tryz.sizeOf2
  v2 := Tryz.zeroValue2
  t3 := Tryz.underlying3
  a3 := Tryz.isAgg3
  z3 := Tryz.sizeOf3
  v3 := Tryz.zeroValue3
  t4 := Tryz.underlying4
  a4 := Tryz.isAgg4
  z4 := Tryz.sizeOf4
  v4 := Tryz.zeroValue4
  t5 := Tryz.underlying5
  a5 := Tryz.isAgg5
  z5 := Tryz.sizeOf5
  v5 := Tryz.zeroValue5
  t9 := Tryz.underlying9
  a9 := Tryz.isAgg9
  z9 := Tryz.sizeOf9
  v9 := Tryz.zeroValue9
  t20 := Tryz.underlying20
  a20 := Tryz.isAgg20
  z20 := Tryz.sizeOf20
  v20 := Tryz.zeroValue20
  t37 := Tryz.underlying23
  a37 := Tryz.isAgg23
  z37 := Tryz.sizeOf23
  v37 := Tryz.zeroValue23
  t46 := Tryz.underlying61
  a46 := Tryz.isAgg61
  z46 := Tryz.sizeOf61
  v46 := Tryz.zeroValue61
  t51 := Tryz.underlying164
  a51 := Tryz.isAgg164
  z51 := Tryz.sizeOf164
  v51 := Tryz.zeroValue164
  t53 := Tryz.underlying22
  a53 := Tryz.isAgg22
  z53 := Tryz.sizeOf22
  v53 := Tryz.zeroValue22
  t171 := Tryz.underlying174
  a171 := Tryz.isAgg174
  z171 := Tryz.sizeOf174
  v171 := Tryz.zeroValue174
  t173 := Tryz.underlying177
  a173 := Tryz.isAgg177
  z173 := Tryz.sizeOf177
  v173 := Tryz.zeroValue177
  t212 := Tryz.underlying244
  a212 := Tryz.isAgg244
  z212 := Tryz.sizeOf244
  v212 := Tryz.zeroValue244
  t213 := Tryz.underlying245
  a213 := Tryz.isAgg245
  z213 := Tryz.sizeOf245
  t232 := Tryz.underlying294
  a232 := Tryz.isAgg294
  z232 := Tryz.sizeOf294
  v232 := Tryz.zeroValue294
  t233 := Tryz.underlying280
  a233 := Tryz.isAgg280
  z233 := Tryz.sizeOf280
  v233 := Tryz.zeroValue280
  g17 := by kernel_rfl
  g18 := by kernel_rfl
  g19 := by kernel_rfl
  i0 := by kernel_rfl
  i2 := by kernel_rfl
  i3 := by kernel_rfl
  i4 := by kernel_rfl
  i5 := by kernel_rfl
  i9 := by kernel_rfl
  i20 := by kernel_rfl
  i37 := by kernel_rfl
  i46 := by kernel_rfl
  i51 := by kernel_rfl
  i53 := by kernel_rfl
  i171 := by kernel_rfl
  i173 := by kernel_rfl
  i212 := by kernel_rfl
  i232 := by kernel_rfl
  i233 := by kernel_rfl
  m17 := by kernel_rfl
  m18 := by kernel_rfl
  m19 := by kernel_rfl }
open Go.RowKit Go.Sort Go.Lib in
theorem Tryz.internal_strconv_FormatInt_10 (n : Int) (h0 : -9223372036854775808 ≤ n) (h1 : n ≤ 9223372036854775807) (w : World) (htab : Lib.TabIs Tryz.prog w "internal/strconv.uint64pow10" .u64 Lib.pow10Tab) :
    Calls Tryz.prog 63 #[.int .i64 n, .int .i64 10] w fun e w' => e = .returned (.string ⟨(Lib.itoa n).toArray⟩) ∧ ∃ k os, w' = grow (w.drewN k) os := Any.internal_strconv_FormatInt_10 Tryz.laysM246 n h0 h1 w htab
def Tryz.laysM171_ren : Go.Shelf.Ren := ⟨fun | 171 => 167 | 243 => 216 | 246 => 63 | 283 => 118 | 284 => 119 | 285 => 120 | 286 => 121 | 129 => 173 | 317 => 172 | 318 => 174 | 319 => 175 | 320 => 176 | 337 => 229 | 338 => 230 | n => n, fun | 3 => 3 | 9 => 9 | 2 => 2 | 4 => 4 | 171 => 174 | 0 => 0 | 53 => 22 | 37 => 23 | 5 => 5 | 173 => 177 | 212 => 244 | 51 => 164 | 20 => 20 | 213 => 245 | 46 => 61 | 232 => 294 | 233 => 280 | n => n, fun | 17 => 4 | 18 => 13 | 19 => 14 | n => n⟩
theorem Tryz.laysM171 : Go.Proofs.LaysM.n171 Tryz.prog Tryz.laysM171_ren := {
  mixed := by kernel_rfl
  f129 := Tryz.func173.trans (congrArg some (by kernel_rfl))
  f171 := Tryz.func167.trans (congrArg some (by kernel_rfl))
  f243 := Tryz.func216.trans (congrArg some (by kernel_rfl))
  f246 := Tryz.func63.trans (congrArg some (by kernel_rfl))
  f283 := Tryz.func118.trans (congrArg some (by kernel_rfl))
  f284 := Tryz.func119.trans (congrArg some (by kernel_rfl))
  f285 := Tryz.func120.trans (congrArg some (by kernel_rfl))
  f286 := Tryz.func121.trans (congrArg some (by kernel_rfl))
  f317 := Tryz.func172.trans (congrArg some (by kernel_rfl))
  f318 := Tryz.func174.trans (congrArg some (by kernel_rfl))
  f319 := Tryz.func175.trans (congrArg some (by kernel_rfl))
  f320 := Tryz.func176.trans (congrArg some (by kernel_rfl))
  f337 := Tryz.func229.trans (congrArg some (by kernel_rfl))
  f338 := Tryz.func230.trans (congrArg some (by kernel_rfl))
  t0 := Tryz.underlying0
  a0 := Tryz.isAgg0
  z0 := Tryz.sizeOf0
  v0 := Tryz.zeroValue0
  t2 := Tryz.underlying2
  a2 := Tryz.isAgg2
  z2 := Tryz.sizeOf2
  v2 := Tryz.zeroValue2
  t3 := Tryz.underlying3
  a3 := Tryz.isAgg3
  z3 := Tryz.sizeOf3
  v3 := Tryz.zeroValue3
  t4 := Tryz.underlying4
  a4 := Tryz.isAgg4
  z4 := Tryz.sizeOf4
  v4 := Tryz.zeroValue4
  t5 := Tryz.underlying5
  a5 := Tryz.isAgg5
  z5 := Tryz.sizeOf5
  v5 := Tryz.zeroValue5
  t9 := Tryz.underlying9
  a9 := Tryz.isAgg9
  z9 := Tryz.sizeOf9
  v9 := Tryz.zeroValue9
  t20 := Tryz.underlying20
  a20 := Tryz.isAgg20
  z20 := Tryz.sizeOf20
  v20 := Tryz.zeroValue20
  t37 := Tryz.underlying23
  a37 := Tryz.isAgg23
  z37 := Tryz.sizeOf23
  v37 := Tryz.zeroValue23
  t46 := Tryz.underlying61
  a46 := Tryz.isAgg61
  z46 := Tryz.sizeOf61
  v46 := Tryz.zeroValue61
  t51 := Tryz.underlying164
  a51 := Tryz.isAgg164
  z51 := Tryz.sizeOf164
  v51 := Tryz.zeroValue164
  t53 := Tryz.underlying22
  a53 := Tryz.isAgg22
  z53 := Tryz.sizeOf22
  v53 := Tryz.zeroValue22
  t171 := Tryz.underlying174
  a171 := Tryz.isAgg174
  z171 := Tryz.sizeOf174
  v171 := Tryz.zeroValue174
  t173 := Tryz.underlying177
  a173 := Tryz.isAgg177
  z173 := Tryz.sizeOf177
  v173 := Tryz.zeroValue177
  t212 := Tryz.underlying244
  a212 := Tryz.isAgg244
  z212 := Tryz.sizeOf244
  v212 := Tryz.zeroValue244
  t213 := Tryz.underlying245
  a213 := Tryz.isAgg245
  z213 := Tryz.sizeOf245
  t232 := Tryz.underlying294
  a232 := Tryz.isAgg294
  z232 := Tryz.sizeOf294
  v232 := Tryz.zeroValue294
  t233 := Tryz.underlying280
  a233 := Tryz.isAgg280
  z233 := Tryz.sizeOf280
  v233 := Tryz.zeroValue280
  g17 := by kernel_rfl
  g18 := by kernel_rfl
  g19 := by kernel_rfl
  i0 := by kernel_rfl
  i2 := by kernel_rfl
  i3 := by kernel_rfl
  i4 := by kernel_rfl
  i5 := by kernel_rfl
  i9 := by kernel_rfl
  i20 := by kernel_rfl
  i37 := by kernel_rfl
  i46 := by kernel_rfl
  i51 := by kernel_rfl
  i53 := by kernel_rfl
  i171 := by kernel_rfl
  i173 := by kernel_rfl
  i212 := by kernel_rfl
  i232 := by kernel_rfl
  i233 := by kernel_rfl
  m17 := by kernel_rfl
  m18 := by kernel_rfl
  m19 := by kernel_rfl }
open Go.RowKit Go.Sort Go.Lib in
theorem Tryz.strconv_Itoa (n : Int) (h0 : -9223372036854775808 ≤ n) (h1 : n ≤ 9223372036854775807) (w : World) (htab : Lib.TabIs Tryz.prog w "internal/strconv.uint64pow10" .u64 Lib.pow10Tab) :
    Calls Tryz.prog 167 #[.int .i64 n] w fun e w' => e = .returned (.string ⟨(Lib.itoa n).toArray⟩) ∧ ∃ k os, w' = grow (w.drewN k) os := Any.strconv_Itoa Tryz.laysM171 n h0 h1 w htab
def Tryz.lays197_ren : Go.Shelf.Ren := ⟨fun | 197 => 142 | 260 => 204 | n => n, fun | 9 => 9 | 21 => 21 | 3 => 3 | 4 => 4 | 5 => 5 | 105 => 200 | 119 => 281 | 0 => 0 | 46 => 61 | 139 => 310 | 138 => 309 | n => n, fun | 3 => 10 | 4 => 11 | n => n⟩
theorem Tryz.lays197 : Go.Proofs.Lays.n197 Tryz.prog Tryz.lays197_ren := {
  mixed := by kernel_rfl
  f197 := Tryz.func142.trans (congrArg some (by kernel_rfl))
  f260 := Tryz.func204.trans (congrArg some (by kernel_rfl))
  t0 := Tryz.underlying0
  a0 := Tryz.isAgg0
  z0 := Tryz.sizeOf0
  v0 := Tryz.zeroValue0
  t3 := Tryz.underlying3
  a3 := Tryz.isAgg3
  z3 := Tryz.sizeOf3
  v3 := Tryz.zeroValue3
  t4 := Tryz.underlying4
  a4 := Tryz.isAgg4
  z4 := Tryz.sizeOf4
  v4 := Tryz.zeroValue4
  t5 := Tryz.underlying5
  a5 := Tryz.isAgg5
  z5 := Tryz.sizeOf5
  v5 := Tryz.zeroValue5
  t9 := Tryz.underlying9
  a9 := Tryz.isAgg9
  z9 := Tryz.sizeOf9
  v9 := Tryz.zeroValue9
  t21 := Tryz.underlying21
  a21 := Tryz.isAgg21
  z21 := Tryz.sizeOf21
  v21 := Tryz.zeroValue21
  t46 := Tryz.underlying61
  a46 := Tryz.isAgg61
  z46 := Tryz.sizeOf61
  v46 := Tryz.zeroValue61
  t105 := Tryz.underlying200
  a105 := Tryz.isAgg200
  z105 := Tryz.sizeOf200
  v105 := Tryz.zeroValue200
  t119 := Tryz.underlying281
  a119 := Tryz.isAgg281
  z119 := Tryz.sizeOf281
  t138 := Tryz.underlying309
  a138 := Tryz.isAgg309
  z138 := Tryz.sizeOf309
  v138 := Tryz.zeroValue309
  t139 := Tryz.underlying310
  a139 := Tryz.isAgg310
  z139 := Tryz.sizeOf310
  v139 := Tryz.zeroValue310
  g3 := by kernel_rfl
  g4 := by kernel_rfl }
def Tryz.lays264_ren : Go.Shelf.Ren := ⟨fun | 264 => 281 | n => n, fun | 53 => 22 | 46 => 61 | n => n, fun | n => n⟩
theorem Tryz.lays264 : Go.Proofs.Lays.n264 Tryz.prog Tryz.lays264_ren := {
  mixed := by kernel_rfl
  f264 := Tryz.func281.trans (congrArg some (by kernel_rfl))
  t46 := Tryz.underlying61
  a46 := Tryz.isAgg61
  z46 := Tryz.sizeOf61
  v46 := Tryz.zeroValue61
  t53 := Tryz.underlying22
  a53 := Tryz.isAgg22
  z53 := Tryz.sizeOf22
  v53 := Tryz.zeroValue22 }
open Go.RowKit Go.Lib in
theorem Tryz.bits_Mul64 (x y : Nat) (hx : x < 18446744073709551616) (hy : y < 18446744073709551616) (w : World) :
    Calls Tryz.prog 281 #[.int .u64 x, .int .u64 y] w fun e w' => e = .returned (.tuple #[.int .u64 ((x * y / 18446744073709551616 : Nat) : Int), .int .u64 ((x * y % 18446744073709551616 : Nat) : Int)]) ∧ w' = w := Any.bits_Mul64 Tryz.lays264 x y hx hy w
open Go.RowKit Go.Lib in
theorem Tryz.utf8_DecodeRuneInString (s : ByteArray) (w : World) (hT : Lib.Utf8Tabs 10 11 w) :
    Calls Tryz.prog 142 #[.string s] w fun e w' => e = .returned (.tuple #[.int .i32 (Lib.decodeGo s).1, .int .i64 (Lib.decodeGo s).2]) ∧ Below w.heap.size w w' := Any.utf8_DecodeRuneInString Tryz.lays197 s w hT
end Go.Proofs
namespace Go.Proofs
open Go.Shelf
def Tryz.laysPa40_ren : Go.Shelf.Ren := ⟨fun | 40 => 152 | n => n, fun | 30 => 23 | 3 => 3 | 0 => 0 | 5 => 5 | 46 => 61 | 9 => 9 | n => n, fun | n => n⟩
theorem Tryz.laysPa40 : Go.Proofs.Lays.p40 Tryz.prog Tryz.laysPa40_ren := {
  mixed := by kernel_rfl
  f40 := Tryz.func152.trans (congrArg some (by kernel_rfl))
  t0 := Tryz.underlying0
  a0 := Tryz.isAgg0
  z0 := Tryz.sizeOf0
  v0 := Tryz.zeroValue0
  t3 := Tryz.underlying3
  a3 := Tryz.isAgg3
  z3 := Tryz.sizeOf3
  v3 := Tryz.zeroValue3
  t5 := Tryz.underlying5
  a5 := Tryz.isAgg5
  z5 := Tryz.sizeOf5
  v5 := Tryz.zeroValue5
  t9 := Tryz.underlying9
  a9 := Tryz.isAgg9
  z9 := Tryz.sizeOf9
  v9 := Tryz.zeroValue9
  t30 := Tryz.underlying23
  a30 := Tryz.isAgg23
  z30 := Tryz.sizeOf23
  v30 := Tryz.zeroValue23
  t46 := Tryz.underlying61
  a46 := Tryz.isAgg61
  z46 := Tryz.sizeOf61
  v46 := Tryz.zeroValue61 }
open Go.RowKit Go.Lib in
theorem Tryz.hex_Encode_tag (T : TypeId) (bd od nd cd N : Nat) (f : Nat → Value) (bs os n cs : Nat) (xs : List Int) (w : World) (hx : xs.length = n) (hr : ∀ i, i < n → 0 ≤ xs.getD i 0 ∧ xs.getD i 0 < 256) (hsrc : ∀ i, i < n → w.cell? ⟨bs, os + i, none⟩ = some (.int .u8 (xs.getD i 0))) (hrow : w.rowIs bd T N f) (hfit : od + nd ≤ N) (hlen : 2 * n ≤ nd) (hne : bd ≠ bs) (hbig : n ≤ 4611686018427387903) :
    Calls Tryz.prog 152 #[.slice (some ⟨bd, od, none⟩) nd cd, .slice (some ⟨bs, os, none⟩) n cs] w fun e w' => e = .returned (.int .i64 ((n : Int) * 2)) ∧ w'.rowIs bd T N (Hx.row f od (Lib.bytesOf xs) n) ∧ w.grownBy w' (some bd) := Any.hex_Encode_tag Tryz.laysPa40 T bd od nd cd N f bs os n cs xs w hx hr hsrc hrow hfit hlen hne hbig
def Tryz.laysM182_ren : Go.Shelf.Ren := ⟨fun | 182 => 42 | n => n, fun | 130 => 72 | 9 => 9 | 4 => 4 | 0 => 0 | 93 => 69 | 37 => 23 | 3 => 3 | 91 => 67 | 5 => 5 | n => n, fun | n => n⟩
theorem Tryz.laysM182 : Go.Proofs.LaysM.n182 Tryz.prog Tryz.laysM182_ren := {
  mixed := by kernel_rfl
  f182 := Tryz.func42.trans (congrArg some (by kernel_rfl))
  t0 := Tryz.underlying0
  a0 := Tryz.isAgg0
  z0 := Tryz.sizeOf0
  v0 := Tryz.zeroValue0
  t3 := Tryz.underlying3
  a3 := Tryz.isAgg3
  z3 := Tryz.sizeOf3
  v3 := Tryz.zeroValue3
  t4 := Tryz.underlying4
  a4 := Tryz.isAgg4
  z4 := Tryz.sizeOf4
  v4 := Tryz.zeroValue4
  t9 := Tryz.underlying9
  a9 := Tryz.isAgg9
  z9 := Tryz.sizeOf9
  v9 := Tryz.zeroValue9
  t37 := Tryz.underlying23
  a37 := Tryz.isAgg23
  z37 := Tryz.sizeOf23
  v37 := Tryz.zeroValue23
  t93 := Tryz.underlying69
  a93 := Tryz.isAgg69
  z93 := Tryz.sizeOf69
  v93 := Tryz.zeroValue69
  t130 := Tryz.underlying72
  a130 := Tryz.isAgg72
  z130 := Tryz.sizeOf72
  v130 := Tryz.zeroValue72
  t5 := Tryz.underlying5
  a5 := Tryz.isAgg5
  z5 := Tryz.sizeOf5
  v5 := Tryz.zeroValue5
  t91 := Tryz.underlying67
  a91 := Tryz.isAgg67
  z91 := Tryz.sizeOf67
  v91 := Tryz.zeroValue67
  i0 := by kernel_rfl
  i3 := by kernel_rfl
  i4 := by kernel_rfl
  i5 := by kernel_rfl
  i9 := by kernel_rfl
  i37 := by kernel_rfl
  i91 := by kernel_rfl
  i93 := by kernel_rfl
  i130 := by kernel_rfl }
open Go.RowKit in
theorem Tryz.Buffer_String (B b : Nat) (l : List UInt8) (w : World) (h : Lib.IsBuffer 69 5 B b (Lib.byteCells l) w) :
    Calls Tryz.prog 42 #[.pointer (some ⟨b, 0, none⟩)] w fun e w' => e = .returned (.string ⟨l.toArray⟩) ∧ ∃ n, w' = w.drewN n := Any.Buffer_String Tryz.laysM182 B b l w h
def Tryz.laysM183_ren : Go.Shelf.Ren := ⟨fun | 183 => 177 | n => n, fun | 130 => 72 | 37 => 23 | 0 => 0 | 93 => 69 | 3 => 3 | 5 => 5 | 91 => 67 | n => n, fun | n => n⟩
theorem Tryz.laysM183 : Go.Proofs.LaysM.n183 Tryz.prog Tryz.laysM183_ren := {
  mixed := by kernel_rfl
  f183 := Tryz.func177.trans (congrArg some (by kernel_rfl))
  t0 := Tryz.underlying0
  a0 := Tryz.isAgg0
  z0 := Tryz.sizeOf0
  v0 := Tryz.zeroValue0
  t3 := Tryz.underlying3
  a3 := Tryz.isAgg3
  z3 := Tryz.sizeOf3
  v3 := Tryz.zeroValue3
  t37 := Tryz.underlying23
  a37 := Tryz.isAgg23
  z37 := Tryz.sizeOf23
  v37 := Tryz.zeroValue23
  t93 := Tryz.underlying69
  a93 := Tryz.isAgg69
  z93 := Tryz.sizeOf69
  v93 := Tryz.zeroValue69
  t130 := Tryz.underlying72
  a130 := Tryz.isAgg72
  z130 := Tryz.sizeOf72
  v130 := Tryz.zeroValue72
  t5 := Tryz.underlying5
  a5 := Tryz.isAgg5
  z5 := Tryz.sizeOf5
  v5 := Tryz.zeroValue5
  t91 := Tryz.underlying67
  a91 := Tryz.isAgg67
  z91 := Tryz.sizeOf67
  v91 := Tryz.zeroValue67
  i0 := by kernel_rfl
  i3 := by kernel_rfl
  i5 := by kernel_rfl
  i37 := by kernel_rfl
  i91 := by kernel_rfl
  i93 := by kernel_rfl
  i130 := by kernel_rfl }
open Go.RowKit in
theorem Tryz.Buffer_Bytes (B b : Nat) (bs : List Value) (w : World) (h : Lib.IsBuffer 69 5 B b bs w) :
    Calls Tryz.prog 177 #[.pointer (some ⟨b, 0, none⟩)] w fun e w' => ∃ v, e = .returned v ∧ w'.ownsRow B 5 1 v bs.length bs ∧ ∃ n, w' = w.drewN n := Any.Buffer_Bytes Tryz.laysM183 B b bs w h
def Tryz.laysM179_ren : Go.Shelf.Ren := ⟨fun | 179 => 140 | 251 => 202 | 252 => 203 | 181 => 238 | 184 => 239 | 290 => 240 | 324 => 275 | n => n, fun | 130 => 72 | 5 => 5 | 75 => 76 | 0 => 0 | 93 => 69 | 91 => 67 | 3 => 3 | 131 => 272 | 4 => 4 | 37 => 23 | 20 => 20 | 80 => 80 | 9 => 9 | n => n, fun | 14 => 9 | n => n⟩
theorem Tryz.laysM179 : Go.Proofs.LaysM.n179 Tryz.prog Tryz.laysM179_ren := {
  mixed := by kernel_rfl
  f179 := Tryz.func140.trans (congrArg some (by kernel_rfl))
  f181 := Tryz.func238.trans (congrArg some (by kernel_rfl))
  f184 := Tryz.func239.trans (congrArg some (by kernel_rfl))
  f251 := Tryz.func202.trans (congrArg some (by kernel_rfl))
  f252 := Tryz.func203.trans (congrArg some (by kernel_rfl))
  f290 := Tryz.func240.trans (congrArg some (by kernel_rfl))
  f324 := Tryz.func275.trans (congrArg some (by kernel_rfl))
  t0 := Tryz.underlying0
  a0 := Tryz.isAgg0
  z0 := Tryz.sizeOf0
  v0 := Tryz.zeroValue0
  t3 := Tryz.underlying3
  a3 := Tryz.isAgg3
  z3 := Tryz.sizeOf3
  v3 := Tryz.zeroValue3
  t4 := Tryz.underlying4
  a4 := Tryz.isAgg4
  z4 := Tryz.sizeOf4
  v4 := Tryz.zeroValue4
  t5 := Tryz.underlying5
  a5 := Tryz.isAgg5
  z5 := Tryz.sizeOf5
  v5 := Tryz.zeroValue5
  t20 := Tryz.underlying20
  a20 := Tryz.isAgg20
  z20 := Tryz.sizeOf20
  v20 := Tryz.zeroValue20
  t37 := Tryz.underlying23
  a37 := Tryz.isAgg23
  z37 := Tryz.sizeOf23
  v37 := Tryz.zeroValue23
  t75 := Tryz.underlying76
  a75 := Tryz.isAgg76
  z75 := Tryz.sizeOf76
  v75 := Tryz.zeroValue76
  t91 := Tryz.underlying67
  a91 := Tryz.isAgg67
  z91 := Tryz.sizeOf67
  v91 := Tryz.zeroValue67
  t93 := Tryz.underlying69
  a93 := Tryz.isAgg69
  z93 := Tryz.sizeOf69
  v93 := Tryz.zeroValue69
  t130 := Tryz.underlying72
  a130 := Tryz.isAgg72
  z130 := Tryz.sizeOf72
  v130 := Tryz.zeroValue72
  t131 := Tryz.underlying272
  a131 := Tryz.isAgg272
  z131 := Tryz.sizeOf272
  v131 := Tryz.zeroValue272
  g14 := by kernel_rfl
  t9 := Tryz.underlying9
  a9 := Tryz.isAgg9
  z9 := Tryz.sizeOf9
  v9 := Tryz.zeroValue9
  t80 := Tryz.underlying80
  a80 := Tryz.isAgg80
  z80 := Tryz.sizeOf80
  v80 := Tryz.zeroValue80
  i0 := by kernel_rfl
  i3 := by kernel_rfl
  i4 := by kernel_rfl
  i5 := by kernel_rfl
  i9 := by kernel_rfl
  i20 := by kernel_rfl
  i37 := by kernel_rfl
  i75 := by kernel_rfl
  i80 := by kernel_rfl
  i91 := by kernel_rfl
  i93 := by kernel_rfl
  i130 := by kernel_rfl
  i131 := by kernel_rfl
  m14 := by kernel_rfl }
def Tryz.laysM178_ren : Go.Shelf.Ren := ⟨fun | 178 => 141 | 251 => 202 | 252 => 203 | 181 => 238 | 184 => 239 | 290 => 240 | 324 => 275 | n => n, fun | 130 => 72 | 9 => 9 | 3 => 3 | 75 => 76 | 0 => 0 | 93 => 69 | 91 => 67 | 131 => 272 | 4 => 4 | 37 => 23 | 20 => 20 | 80 => 80 | 5 => 5 | n => n, fun | 14 => 9 | n => n⟩
theorem Tryz.laysM178 : Go.Proofs.LaysM.n178 Tryz.prog Tryz.laysM178_ren := {
  mixed := by kernel_rfl
  f178 := Tryz.func141.trans (congrArg some (by kernel_rfl))
  f181 := Tryz.func238.trans (congrArg some (by kernel_rfl))
  f184 := Tryz.func239.trans (congrArg some (by kernel_rfl))
  f251 := Tryz.func202.trans (congrArg some (by kernel_rfl))
  f252 := Tryz.func203.trans (congrArg some (by kernel_rfl))
  f290 := Tryz.func240.trans (congrArg some (by kernel_rfl))
  f324 := Tryz.func275.trans (congrArg some (by kernel_rfl))
  t0 := Tryz.underlying0
  a0 := Tryz.isAgg0
  z0 := Tryz.sizeOf0
  v0 := Tryz.zeroValue0
  t3 := Tryz.underlying3
  a3 := Tryz.isAgg3
  z3 := Tryz.sizeOf3
  v3 := Tryz.zeroValue3
  t4 := Tryz.underlying4
  a4 := Tryz.isAgg4
  z4 := Tryz.sizeOf4
  v4 := Tryz.zeroValue4
  t9 := Tryz.underlying9
  a9 := Tryz.isAgg9
  z9 := Tryz.sizeOf9
  v9 := Tryz.zeroValue9
  t20 := Tryz.underlying20
  a20 := Tryz.isAgg20
  z20 := Tryz.sizeOf20
  v20 := Tryz.zeroValue20
  t37 := Tryz.underlying23
  a37 := Tryz.isAgg23
  z37 := Tryz.sizeOf23
  v37 := Tryz.zeroValue23
  t75 := Tryz.underlying76
  a75 := Tryz.isAgg76
  z75 := Tryz.sizeOf76
  v75 := Tryz.zeroValue76
  t91 := Tryz.underlying67
  a91 := Tryz.isAgg67
  z91 := Tryz.sizeOf67
  v91 := Tryz.zeroValue67
  t93 := Tryz.underlying69
  a93 := Tryz.isAgg69
  z93 := Tryz.sizeOf69
  v93 := Tryz.zeroValue69
  t130 := Tryz.underlying72
  a130 := Tryz.isAgg72
  z130 := Tryz.sizeOf72
  v130 := Tryz.zeroValue72
  t131 := Tryz.underlying272
  a131 := Tryz.isAgg272
  z131 := Tryz.sizeOf272
  v131 := Tryz.zeroValue272
  g14 := by kernel_rfl
  t5 := Tryz.underlying5
  a5 := Tryz.isAgg5
  z5 := Tryz.sizeOf5
  v5 := Tryz.zeroValue5
  t80 := Tryz.underlying80
  a80 := Tryz.isAgg80
  z80 := Tryz.sizeOf80
  v80 := Tryz.zeroValue80
  i0 := by kernel_rfl
  i3 := by kernel_rfl
  i4 := by kernel_rfl
  i5 := by kernel_rfl
  i9 := by kernel_rfl
  i20 := by kernel_rfl
  i37 := by kernel_rfl
  i75 := by kernel_rfl
  i80 := by kernel_rfl
  i91 := by kernel_rfl
  i93 := by kernel_rfl
  i130 := by kernel_rfl
  i131 := by kernel_rfl
  m14 := by kernel_rfl }
open Go.RowKit in
theorem Tryz.Buffer_WriteByte_k (B b : Nat) (bs : List Value) (c : Int) (w : World) (h : Lib.IsBuffer 69 5 B b bs w) (hBw : B ≤ w.heap.size) (h1 : ∀ v ∈ bs, v.oneCell' = true) (hlim : bs.length + 1 ≤ 140737488355328) :
    Calls Tryz.prog 140 #[.pointer (some ⟨b, 0, none⟩), .int .u8 c] w fun e w' => e = .returned .nilIface ∧ Lib.IsBuffer 69 5 B b (bs ++ [.int .u8 c]) w' ∧ Below B w w' ∧ Lib.OthersKept 5 (some b) w w' := Any.Buffer_WriteByte_k Tryz.laysM179 B b bs c w h hBw h1 hlim
open Go.RowKit in
theorem Tryz.Buffer_WriteString_k (B b : Nat) (bs : List Value) (s : ByteArray) (w : World) (h : Lib.IsBuffer 69 5 B b bs w) (hBw : B ≤ w.heap.size) (h1 : ∀ v ∈ bs, v.oneCell' = true) (hlim : bs.length + s.size ≤ 140737488355328) :
    Calls Tryz.prog 141 #[.pointer (some ⟨b, 0, none⟩), .string s] w fun e w' => e = .returned (.tuple #[.int .i64 s.size, .nilIface]) ∧ Lib.IsBuffer 69 5 B b (bs ++ Lib.byteCells s.data.toList) w' ∧ Below B w w' ∧ Lib.OthersKept 5 (some b) w w' := Any.Buffer_WriteString_k Tryz.laysM178 B b bs s w h hBw h1 hlim
end Go.Proofs
set_option linter.unusedVariables false
namespace Go.Proofs.Tryz
open Go.Vc Go.RowKit
theorem get_mkS {s : List UInt8} {k : Nat} {b : UInt8} (h : s[k]? = some b) : (mkS s).get! k = b := by
  obtain ⟨hlt, he⟩ := List.getElem?_eq_some_iff.1 h
  show (⟨s⟩ : Array UInt8)[k]! = b
  rw [getElem!_pos _ k (by simpa using hlt)]
  simpa using he
theorem decode_cons (s : List UInt8) (hs : s ≠ []) : Lib.decodeGo (mkS s) = Lib.decodeN s.length ((mkS s).get! 0).toNat ((mkS s).get! 1).toNat ((mkS s).get! 2).toNat ((mkS s).get! 3).toNat := by
  have hsz : (mkS s).size = s.length := rfl
  have h0 : ¬ (mkS s).size = 0 := by rw [hsz]; cases s <;> simp_all
  unfold Lib.decodeGo
  rw [if_neg h0, Lib.decode_at]
  rfl
theorem rune_decode (s : List UInt8) (h : (runeF s).1 ≠ 0) : Lib.decodeGo (mkS s) = ((runeF s).2, (runeF s).1) := by
  cases s with
  | nil => simp [runeF] at h
  | cons a r =>
    rw [decode_cons _ (by simp)]
    have g0 : (mkS (a :: r)).get! 0 = a := get_mkS rfl
    rw [g0]
    have ha := a.toNat_lt
    rw [runeF] at h ⊢
    by_cases h128 : a.toNat < 128
    · rw [if_pos h128]
      unfold Lib.decodeN
      rw [if_pos h128]
    rw [if_neg h128] at h ⊢
    have hl : lead a.toNat = (if 194 ≤ a.toNat ∧ a.toNat < 224 then (2, a.toNat % 32, 128) else if 224 ≤ a.toNat ∧ a.toNat < 240 then (3, a.toNat % 16, 2048) else if 240 ≤ a.toNat ∧ a.toNat < 245 then (4, a.toNat % 8, 65536) else (0, a.toNat, 0)) := rfl
    by_cases c2 : 194 ≤ a.toNat ∧ a.toNat < 224
    · rw [if_pos c2] at hl
      rw [hl] at h ⊢
      simp only [] at h ⊢
      cases r with
      | nil => simp [tailF] at h
      | cons b r =>
        have g1 : (mkS (a :: b :: r)).get! 1 = b := get_mkS rfl
        rw [g1]
        unfold tailF at h ⊢
        have hn : ¬ ((2 : Nat) = 0 ∨ (a :: b :: r).length < 2) := by simp
        rw [if_neg hn] at h ⊢
        have ht : ((a :: b :: r).take 2).drop 1 = [b] := rfl
        rw [ht] at h ⊢
        have hfold : [b].foldl stepC (a.toNat % 32) = a.toNat % 32 * 64 + b.toNat % 64 := rfl
        rw [hfold] at h ⊢
        split at h
        · rename_i hall
          rw [if_pos hall]
          have hb : b.toNat / 64 = 2 := by simpa using hall
          split at h
          · rename_i hok
            rw [if_pos hok]
            unfold okC at hok
            simp only [Bool.and_eq_true, decide_eq_true_eq, Bool.not_eq_true', Bool.and_eq_false_iff, decide_eq_false_iff_not] at hok
            unfold Lib.decodeN
            rw [if_neg h128, if_pos ⟨by omega, by simp, hb⟩, if_pos hok.1.1]
          · exact absurd rfl h
        · exact absurd rfl h
    rw [if_neg c2] at hl
    by_cases c3 : 224 ≤ a.toNat ∧ a.toNat < 240
    · rw [if_pos c3] at hl
      rw [hl] at h ⊢
      simp only [] at h ⊢
      rcases r with _ | ⟨b, _ | ⟨c, r⟩⟩
      · simp [tailF] at h
      · simp [tailF] at h
      · have g1 : (mkS (a :: b :: c :: r)).get! 1 = b := get_mkS rfl
        have g2 : (mkS (a :: b :: c :: r)).get! 2 = c := get_mkS rfl
        rw [g1, g2]
        unfold tailF at h ⊢
        have hn : ¬ ((3 : Nat) = 0 ∨ (a :: b :: c :: r).length < 3) := by simp
        rw [if_neg hn] at h ⊢
        have ht : ((a :: b :: c :: r).take 3).drop 1 = [b, c] := rfl
        rw [ht] at h ⊢
        have hfold : [b, c].foldl stepC (a.toNat % 16) = (a.toNat % 16 * 64 + b.toNat % 64) * 64 + c.toNat % 64 := rfl
        have hsum : (a.toNat % 16 * 64 + b.toNat % 64) * 64 + c.toNat % 64 = a.toNat % 16 * 4096 + b.toNat % 64 * 64 + c.toNat % 64 := by omega
        rw [hfold, hsum] at h ⊢
        split at h
        · rename_i hall
          rw [if_pos hall]
          have hb : b.toNat / 64 = 2 ∧ c.toNat / 64 = 2 := by simpa using hall
          split at h
          · rename_i hok
            rw [if_pos hok]
            unfold okC at hok
            simp only [Bool.and_eq_true, decide_eq_true_eq, Bool.not_eq_true', Bool.and_eq_false_iff, decide_eq_false_iff_not] at hok
            unfold Lib.decodeN
            rw [if_neg h128, if_neg (by omega), if_pos ⟨by omega, ⟨by simp, hb.1⟩, by simp, hb.2⟩, if_pos ⟨hok.1.1, by omega⟩]
          · exact absurd rfl h
        · exact absurd rfl h
    rw [if_neg c3] at hl
    by_cases c4 : 240 ≤ a.toNat ∧ a.toNat < 245
    · rw [if_pos c4] at hl
      rw [hl] at h ⊢
      simp only [] at h ⊢
      rcases r with _ | ⟨b, _ | ⟨c, _ | ⟨d, r⟩⟩⟩
      · simp [tailF] at h
      · simp [tailF] at h
      · simp [tailF] at h
      · have g1 : (mkS (a :: b :: c :: d :: r)).get! 1 = b := get_mkS rfl
        have g2 : (mkS (a :: b :: c :: d :: r)).get! 2 = c := get_mkS rfl
        have g3 : (mkS (a :: b :: c :: d :: r)).get! 3 = d := get_mkS rfl
        rw [g1, g2, g3]
        unfold tailF at h ⊢
        have hn : ¬ ((4 : Nat) = 0 ∨ (a :: b :: c :: d :: r).length < 4) := by simp
        rw [if_neg hn] at h ⊢
        have ht : ((a :: b :: c :: d :: r).take 4).drop 1 = [b, c, d] := rfl
        rw [ht] at h ⊢
        have hfold : [b, c, d].foldl stepC (a.toNat % 8) = ((a.toNat % 8 * 64 + b.toNat % 64) * 64 + c.toNat % 64) * 64 + d.toNat % 64 := rfl
        have hsum : ((a.toNat % 8 * 64 + b.toNat % 64) * 64 + c.toNat % 64) * 64 + d.toNat % 64 = a.toNat % 8 * 262144 + b.toNat % 64 * 4096 + c.toNat % 64 * 64 + d.toNat % 64 := by omega
        rw [hfold, hsum] at h ⊢
        split at h
        · rename_i hall
          rw [if_pos hall]
          have hb : b.toNat / 64 = 2 ∧ c.toNat / 64 = 2 ∧ d.toNat / 64 = 2 := by simpa using hall
          split at h
          · rename_i hok
            rw [if_pos hok]
            unfold okC at hok
            simp only [Bool.and_eq_true, decide_eq_true_eq, Bool.not_eq_true', Bool.and_eq_false_iff, decide_eq_false_iff_not] at hok
            unfold Lib.decodeN
            rw [if_neg h128, if_neg (by omega), if_neg (by omega), if_pos ⟨by omega, ⟨by simp, hb.1⟩, ⟨by simp, hb.2.1⟩, by simp, hb.2.2⟩, if_pos ⟨hok.1.1, by omega⟩]
          · exact absurd rfl h
        · exact absurd rfl h
    · rw [if_neg c4] at hl
      rw [hl] at h
      simp [tailF] at h
end Go.Proofs.Tryz

