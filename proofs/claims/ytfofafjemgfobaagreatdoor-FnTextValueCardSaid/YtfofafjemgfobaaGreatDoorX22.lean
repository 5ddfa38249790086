/- Parts of a proof, joined: Shelf3, VL, W3, VJ, W4, W5, VM, W6, W7, B23, VU. -/
import Derived.Test.YtfofafjemgfobaaGreatDoorX4
import Derived.Test.YtfofafjemgfobaaGreatDoorX8
import Derived.Test.YtfofafjemgfobaaGreatDoorX15
import Derived.Test.YtfofafjemgfobaaGreatDoorX21
import Derived.Shelf.GgSortMore.SortSort
import Derived.Test.YtfofafjemgfobaaGreatDoorProg
import Derived.Lib.SlBytesConst
import Derived.Laws.Cover4
namespace Go.Proofs
open Go.Shelf
def Tryz.laysGt11_ren : Go.Shelf.Ren := ⟨fun | 11 => 157 | 17 => 213 | 18 => 214 | 31 => 244 | 32 => 173 | 33 => 245 | 34 => 246 | 35 => 247 | 36 => 248 | 37 => 249 | 38 => 250 | 39 => 251 | 40 => 252 | 43 => 276 | 44 => 277 | 45 => 278 | 46 => 279 | 47 => 280 | 50 => 286 | n => n, fun | 45 => 286 | 3 => 3 | 4 => 4 | 47 => 61 | 0 => 0 | 56 => 164 | 58 => 22 | 61 => 320 | 60 => 319 | 65 => 272 | 5 => 5 | 9 => 9 | 67 => 345 | 71 => 48 | 73 => 359 | 74 => 86 | 43 => 131 | 26 => 323 | 38 => 344 | n => n, fun | n => n⟩
theorem Tryz.laysGt11 : Go.Proofs.LaysGt.n11 Tryz.prog Tryz.laysGt11_ren := {
  mixed := by kernel_rfl
  f11 := Tryz.func157.trans (congrArg some (by kernel_rfl))
  f17 := Tryz.func213.trans (congrArg some (by kernel_rfl))
  f18 := Tryz.func214.trans (congrArg some (by kernel_rfl))
  f31 := Tryz.func244.trans (congrArg some (by kernel_rfl))
  f32 := Tryz.func173.trans (congrArg some (by kernel_rfl))
  f33 := Tryz.func245.trans (congrArg some (by kernel_rfl))
  f34 := Tryz.func246.trans (congrArg some (by kernel_rfl))
  f35 := Tryz.func247.trans (congrArg some (by kernel_rfl))
  f36 := Tryz.func248.trans (congrArg some (by kernel_rfl))
  f37 := Tryz.func249.trans (congrArg some (by kernel_rfl))
  f38 := Tryz.func250.trans (congrArg some (by kernel_rfl))
  f39 := Tryz.func251.trans (congrArg some (by kernel_rfl))
  f40 := Tryz.func252.trans (congrArg some (by kernel_rfl))
  f43 := Tryz.func276.trans (congrArg some (by kernel_rfl))
  f44 := Tryz.func277.trans (congrArg some (by kernel_rfl))
  f45 := Tryz.func278.trans (congrArg some (by kernel_rfl))
  f46 := Tryz.func279.trans (congrArg some (by kernel_rfl))
  f47 := Tryz.func280.trans (congrArg some (by kernel_rfl))
  f50 := Tryz.func286.trans (congrArg some (by kernel_rfl))
  t0 := Tryz.underlying0
  a0 := Tryz.isAgg0
  z0 := Tryz.sizeOf0
  v0 := Tryz.zeroValue0
  i0 := by kernel_rfl
  t3 := Tryz.underlying3
  a3 := Tryz.isAgg3
  z3 := Tryz.sizeOf3
  v3 := Tryz.zeroValue3
  i3 := by kernel_rfl
  t4 := Tryz.underlying4
  a4 := Tryz.isAgg4
  z4 := Tryz.sizeOf4
  v4 := Tryz.zeroValue4
  i4 := by kernel_rfl
  t5 := Tryz.underlying5
  a5 := Tryz.isAgg5
  z5 := Tryz.sizeOf5
  v5 := Tryz.zeroValue5
  i5 := by kernel_rfl
  t9 := Tryz.underlying9
  a9 := Tryz.isAgg9
  z9 := Tryz.sizeOf9
  v9 := Tryz.zeroValue9
  i9 := by kernel_rfl
  t26 := Tryz.underlying323
  a26 := Tryz.isAgg323
  z26 := Tryz.sizeOf323
  v26 := Tryz.zeroValue323
  i26 := by kernel_rfl
  t38 := Tryz.underlying344
  a38 := Tryz.isAgg344
  z38 := Tryz.sizeOf344
  v38 := Tryz.zeroValue344
  i38 := by kernel_rfl
  t43 := Tryz.underlying131
  a43 := Tryz.isAgg131
  z43 := Tryz.sizeOf131
  v43 := Tryz.zeroValue131
  i43 := by kernel_rfl
  t45 := Tryz.underlying286
  a45 := Tryz.isAgg286
  z45 := Tryz.sizeOf286
  v45 := Tryz.zeroValue286
  i45 := by kernel_rfl
  t47 := Tryz.underlying61
  a47 := Tryz.isAgg61
  z47 := Tryz.sizeOf61
  v47 := Tryz.zeroValue61
  i47 := by kernel_rfl
  t56 := Tryz.underlying164
  a56 := Tryz.isAgg164
  z56 := Tryz.sizeOf164
  v56 := Tryz.zeroValue164
  i56 := by kernel_rfl
  t58 := Tryz.underlying22
  a58 := Tryz.isAgg22
  z58 := Tryz.sizeOf22
  v58 := Tryz.zeroValue22
  i58 := by kernel_rfl
  t60 := Tryz.underlying319
  a60 := Tryz.isAgg319
  z60 := Tryz.sizeOf319
  v60 := Tryz.zeroValue319
  i60 := by kernel_rfl
  t61 := Tryz.underlying320
  a61 := Tryz.isAgg320
  z61 := Tryz.sizeOf320
  v61 := Tryz.zeroValue320
  i61 := by kernel_rfl
  t65 := Tryz.underlying272
  a65 := Tryz.isAgg272
  z65 := Tryz.sizeOf272
  v65 := Tryz.zeroValue272
  i65 := by kernel_rfl
  t67 := Tryz.underlying345
  a67 := Tryz.isAgg345
  z67 := Tryz.sizeOf345
  v67 := Tryz.zeroValue345
  i67 := by kernel_rfl
  t71 := Tryz.underlying48
  a71 := Tryz.isAgg48
  z71 := Tryz.sizeOf48
  v71 := Tryz.zeroValue48
  i71 := by kernel_rfl
  t73 := Tryz.underlying359
  a73 := Tryz.isAgg359
  z73 := Tryz.sizeOf359
  v73 := Tryz.zeroValue359
  i73 := by kernel_rfl
  t74 := Tryz.underlying86
  a74 := Tryz.isAgg86
  z74 := Tryz.sizeOf86
  v74 := Tryz.zeroValue86
  i74 := by kernel_rfl }
open Go.RowKit Go.Lib Go.Sort in
theorem Tryz.sort_Sort_tiny {α : Type} [Inhabited α] (T : TypeId) (rv : Value) (gn : Nat) (rN : Reaches Tryz.prog T rv "Len" gn) (n : Nat) (hn : n ≤ 1) (w : World) (hlen : LenM Tryz.prog gn rv n w) :
    Calls Tryz.prog 157 #[.iface T rv] w fun e w' => e = .returned (.tuple #[]) ∧ ∃ q, w' = w.drewN q := Any.sort_Sort_tiny Tryz.laysGt11 T rv gn rN n hn w hlen
open Go.RowKit Go.Lib Go.Sort in
theorem Tryz.sort_Sort_sorted {α : Type} [Inhabited α] (T : TypeId) (rv : Value) (gn gl gs : Nat) (rN : Reaches Tryz.prog T rv "Len" gn) (rL : Reaches Tryz.prog T rv "Less" gl) (rS : Reaches Tryz.prog T rv "Swap" gs) (enc : α → Value) (lt : α → α → Bool) (hO : SWO lt) (blk off : Nat) (d : Array α) (h2 : 2 ≤ d.size) (hsz : d.size < 4611686018427387904) (w : World) (hlen : LenM Tryz.prog gn rv d.size w) (hless : LessM Tryz.prog gl rv enc lt blk off d.size w) (hswap : SwapM Tryz.prog gs rv enc blk off d.size) (hH : Holds enc w blk off d) (hblk : blk < w.heap.size) :
    Calls Tryz.prog 157 #[.iface T rv] w fun e w' => e = .returned (.tuple #[]) ∧ ∃ d' n os, PermIn 0 d.size d d' ∧ SortedIn lt 0 d.size d' ∧ w' = grow (putRow enc (Sort.ahead w n) blk off d') os := Any.sort_Sort_sorted Tryz.laysGt11 T rv gn gl gs rN rL rS enc lt hO blk off d h2 hsz w hlen hless hswap hH hblk
end Go.Proofs


set_option linter.unusedVariables false
set_option maxRecDepth 100000
namespace Go.Proofs.Tryz
open Go.Vc
def VC94 (b : Bool) (w : World) (R : RR) : Prop :=
 Calls prog 154 ⟨[.bool b]⟩ w fun e w1 => ∃ x4 : Bs, e = .returned (.string (mkS x4)) ∧
 R (.string (mkS x4)) w1
def an94 : Ann :=
 .k .z
 (.k (.t [.q, .s [.str]])
 .l)
theorem c94 (b : Bool) (w : World) (R : RR) (hvc : VC94 b w R) : CR 94 [.bool b] w R :=
 vcc (fn := f94) (ann := an94) hvc (by kernel_rfl) (by kernel_rfl)
def VC154 (b : Bool) (w : World) (R : RR) : Prop :=
 (b = true →
 R (.string (mkS [116, 114, 117, 101])) w) ∧ (b = false →
 R (.string (mkS [102, 97, 108, 115, 101])) w)
def an154 : Ann :=
 .k .z
 (.k (.k .z
 (.cond 1 2 .zl .l))
 .zl)
theorem c154 (b : Bool) (w : World) (R : RR) (hvc : VC154 b w R) : CR 154 [.bool b] w R :=
 vcc (fn := f154) (ann := an154) hvc (by kernel_rfl) (by kernel_rfl)
end Go.Proofs.Tryz
set_option linter.unusedVariables false
namespace Go.Proofs.Tryz
open Go.Vc Go.RowKit
theorem bc_at {l : List UInt8} {j : Nat} {b : UInt8} (h : l[j]? = some b) : (bc l)[j]? = some (.int .u8 (b.toNat : Int)) := by
  unfold bc; rw [List.getElem?_map, h]; rfl
theorem Fr.keep {w0 w w' : World} (h : Fr w0.heap.size w w') (k : Keeps w0 w) : Keeps w0 w' := Below.trans k h.below
theorem Buf.keeps {b : Nat} {l : List UInt8} {w w' : World} (h : Buf b l w) (k : Keeps w w') : Buf b l w' := by
  obtain ⟨h1, v, lr, h2, h3, h4⟩ := h
  refine ⟨h1, v, lr, by rw [Below.block k b (Array.getElem?_eq_some_iff.1 h2).1]; exact h2, ?_, h4⟩
  obtain ⟨p, c, rfl⟩ := slice_of_owns h3
  have ho : Own b w p _ c l := ⟨h3, bc_length l⟩
  exact (ho.keeps k).1
section
variable {B : Nat} {w : World} {a : Nat} {wx : Addr} {can esc : Bool} {buf : List UInt8} {ms : List Int}
end
section
variable {w0 w : World} {a : Nat} {wx : Addr} {can esc : Bool} {buf : List UInt8} {t : Int} {ms : List Int}
end
section
variable {w0 w : World} {a : Nat} {wx : Addr} {can esc : Bool} {buf : List UInt8} {t : Int} {ms : List Int}
end
theorem ret94 (b : Bool) (w : World) : Ret 94 [.bool b] w (.string (mkS (if b then [116, 114, 117, 101] else [102, 97, 108, 115, 101]))) := by
  have h154 : Ret 154 [.bool b] w (.string (mkS (if b then [116, 114, 117, 101] else [102, 97, 108, 115, 101]))) := by
    refine Ret.of (c154 b w _ ?_)
    unfold VC154
    exact ⟨fun h => by rw [h]; exact ⟨rfl, Keeps.refl _⟩, fun h => by rw [h]; exact ⟨rfl, Keeps.refl _⟩⟩
  exact Ret.of (c94 b w _ (h154.go fun w1 hk1 => ⟨_, rfl, rfl, hk1⟩))
section
variable {w0 w : World} {a : Nat} {wx : Addr} {can esc : Bool} {buf : List UInt8} {t : Int} {ms : List Int}
end
section
variable {w0 w : World} {a : Nat} {wx : Addr} {can esc : Bool} {buf : List UInt8} {t : Int} {ms : List Int}
end
end Go.Proofs.Tryz
set_option linter.unusedVariables false
namespace Go.Proofs.Tryz
open Go.Vc Go.RowKit Go.Sort
def enc8 (b : UInt8) : Value := .int .i32 (b.toNat : Int)
def lt8 (a b : UInt8) : Bool := decide ((a.toNat : Int) < (b.toNat : Int))
theorem swo8 : SWO lt8 := ⟨fun x => by simp [lt8], fun x y z h1 h2 => by simp [lt8] at *; omega, fun x y z h1 h2 => by simp [lt8] at *; omega⟩
theorem u223 : prog.underlying 223 = some (.slice 21) := by kernel_rfl
theorem u21 : prog.underlying 21 = some (.int .i32) := by kernel_rfl
theorem runes_ascii (s : List UInt8) (ha : ∀ b ∈ s, b.toNat < 128) : ∀ (bound i : Nat) (acc : Array Value), s.length ≤ i + bound → Conv.runesFrom (mkS s) bound i acc = acc ++ ((s.drop i).map enc8).toArray
  | 0, i, acc, h => by
    rw [List.drop_eq_nil_of_le (by omega)]
    simp [Conv.runesFrom]
  | bound + 1, i, acc, h => by
    unfold Conv.runesFrom
    have hsz : (mkS s).size = s.length := rfl
    by_cases hi : i < s.length
    · rw [if_pos (by rw [hsz]; exact hi)]
      obtain ⟨b, hb⟩ : ∃ b, s[i]? = some b := ⟨_, List.getElem?_eq_getElem hi⟩
      have hd := decode_one s i b hb (ha b (List.mem_of_getElem? hb))
      rw [hd]
      simp only []
      rw [runes_ascii s ha bound (i + 1) _ (by omega), drop_cons hb]
      simp [enc8]
    · rw [if_neg (by rw [hsz]; exact hi), List.drop_eq_nil_of_le (by omega)]
      simp
theorem runes_back : ∀ (l : List UInt8) (acc : ByteArray), (∀ b ∈ l, b.toNat < 128) → (l.map fun b => (b.toNat : Int)).foldl (fun r n => r ++ Utf8.encode n) acc = mkS (acc.data.toList ++ l)
  | [], acc, h => by simp [mkS_eta]
  | b :: l, acc, h => by
    have hb := h b (by simp)
    have he : Utf8.encode (b.toNat : Int) = mkS [b] := by
      unfold Utf8.encode
      have hv : Utf8.valid (b.toNat : Int) = true := by unfold Utf8.valid; simp; omega
      rw [hv]
      simp only [if_true, Int.toNat_natCast]
      rw [if_pos (by omega)]
      have : UInt8.ofNat b.toNat = b := by simp
      rw [this]; rfl
    rw [List.map_cons, List.foldl_cons, he, runes_back l _ (fun x hx => h x (by simp [hx]))]
    have h2 : acc ++ mkS [b] = mkS (acc.data.toList ++ (mkS [b]).data.toList) := mkS_ext (by rw [mkS_data]; simp)
    rw [h2, mkS_data, mkS_data, List.append_assoc]; rfl
theorem calls_q {k : Nat} {args : List Value} {w : World} {Q : Ending → World → Prop} {R : Value → World → Prop} (h : Calls prog k ⟨args⟩ w fun e w' => ∃ v, e = .returned v ∧ R v w') (hq : ∀ v w', R v w' → Q (.returned v) w') : Calls prog k ⟨args⟩ w Q :=
  Calls.mono h fun e w' ⟨v, he, hr⟩ => by rw [he]; exact hq v w' hr
theorem pairwise_of_sortedB : ∀ (s : List UInt8), sortedB s → s.Pairwise fun a b => a.toNat ≤ b.toNat
  | [], _ => List.Pairwise.nil
  | [a], _ => by simp
  | a :: b :: r, h => by
    have h1 : a.toNat ≤ b.toNat := h 0 a b rfl rfl
    have ih := pairwise_of_sortedB (b :: r) (fun i x y hx hy => h (i + 1) x y (by simpa using hx) (by simpa using hy))
    rw [List.pairwise_cons]
    refine ⟨fun y hy => ?_, ih⟩
    rcases List.mem_cons.1 hy with rfl | hy
    · exact h1
    · exact Nat.le_trans h1 ((List.pairwise_cons.1 ih).1 y hy)
theorem get8 {d : Array UInt8} {w : World} {g : Nat} (h : Holds enc8 w g 0 d) (i : Nat) (hi : i < d.size) : w.cell? ((⟨g, 0, none⟩ : Addr).add (((i : Nat) : Int).toNat * 1)) = some (.int .i32 ((d[i]!).toNat : Int)) ∧ w.frozen? ⟨g, 0 + i, none⟩ = false := by
  rw [add_at, Nat.mul_one, Int.toNat_natCast]
  exact h i hi
end Go.Proofs.Tryz
set_option linter.unusedVariables false
set_option maxRecDepth 100000
namespace Go.Proofs.Tryz
open Go.Vc
def VC149 (aa : Bs) (w : World) (R : RR) : Prop :=
 ((!decide ((aa.length : Int) = 64)) = true →
 False) ∧ ((!decide ((aa.length : Int) = 64)) = false →
 ∀ w1, w1 = w.alloc (.cells ((zeros prog 283).getD #[]) 283) →
 CanStore w1 ⟨w.heap.size, 320, none⟩ (.int .i32 61) ∧ ∀ w2, w2 = w1.setCell ⟨w.heap.size, 320, none⟩ (.int .i32 61) →
 ∃ x18 : Int, ∃ w3, BuiltinOk prog .copy #[23, 9] 3 [false, false] [.slice (some (⟨w.heap.size, 0, none⟩)) 64 64, .string (mkS aa)] w2 (.int .i64 x18) w3 ∧
 ∃ x23 : Int, ∃ w4, BuiltinOk prog .copy #[23, 9] 3 [false, true] [.slice (some (⟨w.heap.size, 64, none⟩)) 256 256, .string (mkS [255, 255, 255, 255, 255, 255, 255, 255, 255, 255, 255, 255, 255, 255, 255, 255, 255, 255, 255, 255, 255, 255, 255, 255, 255, 255, 255, 255, 255, 255, 255, 255, 255, 255, 255, 255, 255, 255, 255, 255, 255, 255, 255, 255, 255, 255, 255, 255, 255, 255, 255, 255, 255, 255, 255, 255, 255, 255, 255, 255, 255, 255, 255, 255, 255, 255, 255, 255, 255, 255, 255, 255, 255, 255, 255, 255, 255, 255, 255, 255, 255, 255, 255, 255, 255, 255, 255, 255, 255, 255, 255, 255, 255, 255, 255, 255, 255, 255, 255, 255, 255, 255, 255, 255, 255, 255, 255, 255, 255, 255, 255, 255, 255, 255, 255, 255, 255, 255, 255, 255, 255, 255, 255, 255, 255, 255, 255, 255, 255, 255, 255, 255, 255, 255, 255, 255, 255, 255, 255, 255, 255, 255, 255, 255, 255, 255, 255, 255, 255, 255, 255, 255, 255, 255, 255, 255, 255, 255, 255, 255, 255, 255, 255, 255, 255, 255, 255, 255, 255, 255, 255, 255, 255, 255, 255, 255, 255, 255, 255, 255, 255, 255, 255, 255, 255, 255, 255, 255, 255, 255, 255, 255, 255, 255, 255, 255, 255, 255, 255, 255, 255, 255, 255, 255, 255, 255, 255, 255, 255, 255, 255, 255, 255, 255, 255, 255, 255, 255, 255, 255, 255, 255, 255, 255, 255, 255, 255, 255, 255, 255, 255, 255, 255, 255, 255, 255, 255, 255, 255, 255, 255, 255, 255, 255, 255, 255, 255, 255, 255, 255, 255, 255, 255, 255, 255, 255])] w3 (.int .i64 x23) w4 ∧
 ∃ Ix : Nat → Int → World → Prop, (∃ m_2, Ix m_2 0 w4) ∧
 ∀ m, ∀ i : Int, ∀ w5, Ix m i w5 →
 (decide (i < (aa.length : Int)) = true →
 ∃ x33 : UInt8, ((0 : Int) ≤ i ∧ aa[i.toNat]? = some x33) ∧
 (decide ((x33.toNat : Int) = 10) = true →
 False) ∧ (decide ((x33.toNat : Int) = 10) = false →
 ∃ x38 : UInt8, ((0 : Int) ≤ i ∧ aa[i.toNat]? = some x38) ∧
 (decide ((x38.toNat : Int) = 13) = true →
 False) ∧ (decide ((x38.toNat : Int) = 13) = false →
 ∃ x46 : UInt8, ((0 : Int) ≤ i ∧ aa[i.toNat]? = some x46) ∧
 ((0 : Int) ≤ (x46.toNat : Int) ∧ (x46.toNat : Int) < (256 : Int)) ∧
 ∃ x50 : Int, w5.drew.cell? ((⟨w.heap.size, 64, none⟩ : Addr).add ((x46.toNat : Int).toNat * 1)) = some (.int .u8 x50) ∧
 ((!decide (x50 = 255)) = true →
 False) ∧ ((!decide (x50 = 255)) = false →
 ∃ f : List (Addr × Value), Kept w5.drew f ∧
 ∃ x56 : UInt8, ((0 : Int) ≤ i ∧ aa[i.toNat]? = some x56) ∧
 ∃ x58 : Int, IntKind.u8.wrap i = x58 ∧
 ((0 : Int) ≤ (x56.toNat : Int) ∧ (x56.toNat : Int) < (256 : Int)) ∧
 CanStore w5.drew.drew ((⟨w.heap.size, 64, none⟩ : Addr).add ((x56.toNat : Int).toNat * 1)) (.int .u8 x58) ∧ ∀ w6, w6 = w5.drew.drew.setCell ((⟨w.heap.size, 64, none⟩ : Addr).add ((x56.toNat : Int).toNat * 1)) (.int .u8 x58) →
 ∃ x29 : Int, IntKind.i64.wrap (i + 1) = x29 ∧
 ∃ m_1, m_1 < m ∧ Ix m_1 x29 w6)))) ∧ (decide (i < (aa.length : Int)) = false →
 R (.pointer (some (⟨w.heap.size, 0, none⟩))) w5))
def an149 : Ann :=
 .k .z
 (.k (.k .z
 (.cond 1 2 .z .l))
 (.k .z
 (.k .z
 (.k (.t [.q, .q, .q, .q, .q, .s [.int .i64]])
 (.k (.t [.q, .q, .q, .q, .s [.int .i64]])
 (.k (.k .z
 (.block (.loop [(4, .int .i64)] [0, 3] (.k (.k .z
 (.cond 3 4 .l .l))
 (.k (.block (.k (.block (.k (.t [.q, .q, .q, .q, .q, .gs .n 5 6])
 (.on 6 (.cond 7 8 .z (.k (.reg (.loads (.take 0 (.q) (.take 1 (.q) (.take 2 (.q) (.take 3 (.q) (.take 4 (.q) (.take 5 (.q) (.take 6 (.q) (.take 7 (.s [.int .u8]) (.take 8 (.q) (.take 9 (.q) .done))))))))))))
 (.cond 9 10 .z .l))) (.yes .z))))
 (.reg (.held [9] (.take 0 (.q) (.take 1 (.q) (.take 2 (.q) (.take 3 (.q) (.take 4 (.q) (.take 5 (.q) (.take 6 (.q) (.take 7 (.q) (.take 8 (.q) (.run 9 (.q) .done .done))))))))))))))
 .z)))))
 .zl))))))
theorem c149 (aa : Bs) (w : World) (R : RR) (hvc : VC149 aa w R) : CR 149 [.string (mkS aa)] w R :=
 vcc (fn := f149) (ann := an149) hvc (by kernel_rfl) (by kernel_rfl)
def VC150 (enc : Addr) (src : Ptr) (aa ab : Nat) (w : World) (R : RR) : Prop :=
 Calls prog 209 ⟨[.pointer (some enc), .int .i64 (aa : Int)]⟩ w fun e w1 => ∃ x9 : Int, e = .returned (.int .i64 x9) ∧
 ∃ (x10 : Ptr) (ac ad : Nat), ∃ w2, (Instr.makeSlice 23 (.int .i64 x9) (.int .i64 x9)).run prog w1 = .ok (.slice x10 ac ad) w2 ∧
 Calls prog 210 ⟨[.pointer (some enc), .slice x10 ac ad, .slice src aa ab]⟩ w2 fun e w3 => e = .returned (.tuple ⟨[]⟩) ∧
 ∃ x16 : Bs, ∃ w4, (convert 23 9 (.slice x10 ac ad)).run prog w3 = .ok (.string (mkS x16)) w4 ∧
 R (.string (mkS x16)) w4
def an150 : Ann :=
 .k .z
 (.k (.t [.q, .q, .q, .s [.int .i64], .s [.slice]])
 (.k (.t [.q, .q, .q, .s []])
 (.k (.t [.q, .s [.str]])
 .l)))
theorem c150 (enc : Addr) (src : Ptr) (aa ab : Nat) (w : World) (R : RR) (hvc : VC150 enc src aa ab w R) : CR 150 [.pointer (some enc), .slice src aa ab] w R :=
 vcc (fn := f150) (ann := an150) hvc (by kernel_rfl) (by kernel_rfl)
def VC209 (enc : Addr) (nx : Int) (w : World) (R : RR) : Prop :=
 ∃ x8 : Int, w.cell? (enc.add 320) = some (.int .i32 x8) ∧
 (decide (x8 = (-1)) = true →
 (3 : Int) ≠ 0 ∧ ∃ x11 : Int, IntKind.i64.wrap (Int.tdiv nx 3) = x11 ∧
 ∃ x12 : Int, IntKind.i64.wrap (x11 * 4) = x12 ∧
 (3 : Int) ≠ 0 ∧ ∃ x14 : Int, Int.tmod nx 3 = x14 ∧
 ∃ x15 : Int, IntKind.i64.wrap (x14 * 8) = x15 ∧
 ∃ x16 : Int, IntKind.i64.wrap (x15 + 5) = x16 ∧
 (6 : Int) ≠ 0 ∧ ∃ x17 : Int, IntKind.i64.wrap (Int.tdiv x16 6) = x17 ∧
 ∃ x18 : Int, IntKind.i64.wrap (x12 + x17) = x18 ∧
 R (.int .i64 x18) w) ∧ (decide (x8 = (-1)) = false →
 ∃ x20 : Int, IntKind.i64.wrap (nx + 2) = x20 ∧
 (3 : Int) ≠ 0 ∧ ∃ x21 : Int, IntKind.i64.wrap (Int.tdiv x20 3) = x21 ∧
 ∃ x22 : Int, IntKind.i64.wrap (x21 * 4) = x22 ∧
 R (.int .i64 x22) w)
def an209 : Ann :=
 .k .z
 (.k (.k (.t [.q, .q, .q, .s [.int .i32]])
 (.cond 1 2 .zl .l))
 .zl)
theorem c209 (enc : Addr) (nx : Int) (w : World) (R : RR) (hvc : VC209 enc nx w R) : CR 209 [.pointer (some enc), .int .i64 nx] w R :=
 vcc (fn := f209) (ann := an209) hvc (by kernel_rfl) (by kernel_rfl)
def VC210 (enc : Addr) (dst : Ptr) (cb cc : Nat) (src : Ptr) (cd ce : Nat) (w : World) (R : RR) : Prop :=
 (decide ((cd : Int) = 0) = true →
 R (.tuple ⟨[]⟩) w) ∧ (decide ((cd : Int) = 0) = false →
 ∃ x15 : List Value, LoadsRow prog 280 w enc x15 ∧
 ∃ Ix : Nat → Ptr → Nat → Nat → Ptr → Nat → Nat → World → Prop, (∃ m_2, Ix m_2 dst cb cc src cd ce w) ∧
 ∀ m, ∀ (bz : Ptr) (cf cg : Nat), ∀ (ca : Ptr) (ch ci : Nat), ∀ w1, Ix m bz cf cg ca ch ci w1 →
 (decide (3 ≤ (ch : Int)) = true →
 ((0 : Int) ≤ 0 ∧ 0 < (ch : Int)) ∧ ∃ aa : Addr, ca = some aa ∧
 ∃ x21 : Int, w1.drew.cell? aa = some (.int .u8 x21) ∧
 ∃ x22 : Int, IntKind.u64.wrap x21 = x22 ∧
 (0 : Int) ≤ 16 ∧ ∃ x23 : Int, IntKind.u64.wrap (x22 * 2 ^ 16) = x23 ∧
 ((0 : Int) ≤ 1 ∧ 1 < (ch : Int)) ∧ ∃ ab : Addr, ca = some ab ∧
 ∃ x26 : Int, w1.drew.cell? (ab.add 1) = some (.int .u8 x26) ∧
 ∃ x27 : Int, IntKind.u64.wrap x26 = x27 ∧
 (0 : Int) ≤ 8 ∧ ∃ x28 : Int, IntKind.u64.wrap (x27 * 2 ^ 8) = x28 ∧
 ∃ x29 : Int, bits .or .u64 x23 x28 = x29 ∧
 ((0 : Int) ≤ 2 ∧ 2 < (ch : Int)) ∧ ∃ ac : Addr, ca = some ac ∧
 ∃ x32 : Int, w1.drew.cell? (ac.add 2) = some (.int .u8 x32) ∧
 ∃ x33 : Int, IntKind.u64.wrap x32 = x33 ∧
 ∃ x34 : Int, bits .or .u64 x29 x33 = x34 ∧
 ((0 : Int) ≤ 3 ∧ 3 < (cf : Int)) ∧ ∃ ad : Addr, bz = some ad ∧
 ∃ x37 : Int, w1.drew.cell? (ad.add 3) = some (.int .u8 x37) ∧
 (0 : Int) ≤ 18 ∧ ∃ x41 : Int, Int.fdiv x34 (2 ^ 18) = x41 ∧
 ∃ x42 : Int, bits .and .u64 x41 63 = x42 ∧
 ((0 : Int) ≤ x42 ∧ x42 < (64 : Int)) ∧
 ∃ x46 : Int, w1.drew.cell? (enc.add (x42.toNat * 1)) = some (.int .u8 x46) ∧
 ((0 : Int) ≤ 0 ∧ 0 < (cf : Int)) ∧ ∃ ae : Addr, bz = some ae ∧
 CanStore w1.drew ae (.int .u8 x46) ∧ ∀ w2, w2 = w1.drew.setCell ae (.int .u8 x46) →
 (0 : Int) ≤ 12 ∧ ∃ x51 : Int, Int.fdiv x34 (2 ^ 12) = x51 ∧
 ∃ x52 : Int, bits .and .u64 x51 63 = x52 ∧
 ((0 : Int) ≤ x52 ∧ x52 < (64 : Int)) ∧
 ∃ x56 : Int, w2.cell? (enc.add (x52.toNat * 1)) = some (.int .u8 x56) ∧
 ((0 : Int) ≤ 1 ∧ 1 < (cf : Int)) ∧ ∃ af : Addr, bz = some af ∧
 CanStore w2 (af.add 1) (.int .u8 x56) ∧ ∀ w3, w3 = w2.setCell (af.add 1) (.int .u8 x56) →
 (0 : Int) ≤ 6 ∧ ∃ x61 : Int, Int.fdiv x34 (2 ^ 6) = x61 ∧
 ∃ x62 : Int, bits .and .u64 x61 63 = x62 ∧
 ((0 : Int) ≤ x62 ∧ x62 < (64 : Int)) ∧
 ∃ x66 : Int, w3.cell? (enc.add (x62.toNat * 1)) = some (.int .u8 x66) ∧
 ((0 : Int) ≤ 2 ∧ 2 < (cf : Int)) ∧ ∃ ag : Addr, bz = some ag ∧
 CanStore w3 (ag.add 2) (.int .u8 x66) ∧ ∀ w4, w4 = w3.setCell (ag.add 2) (.int .u8 x66) →
 ∃ x71 : Int, bits .and .u64 x34 63 = x71 ∧
 ((0 : Int) ≤ x71 ∧ x71 < (64 : Int)) ∧
 ∃ x75 : Int, w4.cell? (enc.add (x71.toNat * 1)) = some (.int .u8 x75) ∧
 ((0 : Int) ≤ 3 ∧ 3 < (cf : Int)) ∧ ∃ ah : Addr, bz = some ah ∧
 CanStore w4 (ah.add 3) (.int .u8 x75) ∧ ∀ w5, w5 = w4.setCell (ah.add 3) (.int .u8 x75) →
 ((0 : Int) ≤ 3 ∧ 3 ≤ (ch : Int) ∧ (ch : Int) ≤ (ci : Int)) ∧
 ((0 : Int) ≤ 4 ∧ 4 ≤ (cf : Int) ∧ (cf : Int) ≤ (cg : Int)) ∧
 ∃ m_1, m_1 < m ∧ Ix m_1 (slAddr bz cg 4 1) (cf - 4) (cg - 4) (slAddr ca ci 3 1) (ch - 3) (ci - 3) w5) ∧ (decide (3 ≤ (ch : Int)) = false →
 (decide ((ch : Int) = 0) = true →
 R (.tuple ⟨[]⟩) w1) ∧ (decide ((ch : Int) = 0) = false →
 (decide ((ch : Int) = 1) = true →
 ((0 : Int) ≤ 0 ∧ 0 < (ch : Int)) ∧ ∃ ai : Addr, ca = some ai ∧
 ∃ x89 : Int, w1.cell? ai = some (.int .u8 x89) ∧
 ∃ x90 : Int, IntKind.u64.wrap x89 = x90 ∧
 (0 : Int) ≤ 16 ∧ ∃ x91 : Int, IntKind.u64.wrap (x90 * 2 ^ 16) = x91 ∧
 (0 : Int) ≤ 18 ∧ ∃ x95 : Int, Int.fdiv x91 (2 ^ 18) = x95 ∧
 ∃ x96 : Int, bits .and .u64 x95 63 = x96 ∧
 ((0 : Int) ≤ x96 ∧ x96 < (64 : Int)) ∧
 ∃ aj : Int, w1.cell? (enc.add (x96.toNat * 1)) = some (.int .u8 aj) ∧
 ((0 : Int) ≤ 0 ∧ 0 < (cf : Int)) ∧ ∃ ak : Addr, bz = some ak ∧
 CanStore w1 ak (.int .u8 aj) ∧ ∀ w6, w6 = w1.setCell ak (.int .u8 aj) →
 (0 : Int) ≤ 12 ∧ ∃ al : Int, Int.fdiv x91 (2 ^ 12) = al ∧
 ∃ am : Int, bits .and .u64 al 63 = am ∧
 ((0 : Int) ≤ am ∧ am < (64 : Int)) ∧
 ∃ ao : Int, w6.cell? (enc.add (am.toNat * 1)) = some (.int .u8 ao) ∧
 ((0 : Int) ≤ 1 ∧ 1 < (cf : Int)) ∧ ∃ ap : Addr, bz = some ap ∧
 CanStore w6 (ap.add 1) (.int .u8 ao) ∧ ∀ w7, w7 = w6.setCell (ap.add 1) (.int .u8 ao) →
 ∃ aq : Int, w7.cell? (enc.add 320) = some (.int .i32 aq) ∧
 ((!decide (aq = (-1))) = true →
 ∃ ar : Int, w7.cell? (enc.add 320) = some (.int .i32 ar) ∧
 ∃ au : Int, IntKind.u8.wrap ar = au ∧
 ((0 : Int) ≤ 2 ∧ 2 < (cf : Int)) ∧ ∃ av : Addr, bz = some av ∧
 CanStore w7 (av.add 2) (.int .u8 au) ∧ ∀ w8, w8 = w7.setCell (av.add 2) (.int .u8 au) →
 ∃ aw : Int, w8.cell? (enc.add 320) = some (.int .i32 aw) ∧
 ∃ ax : Int, IntKind.u8.wrap aw = ax ∧
 ((0 : Int) ≤ 3 ∧ 3 < (cf : Int)) ∧ ∃ ay : Addr, bz = some ay ∧
 CanStore w8 (ay.add 3) (.int .u8 ax) ∧ ∀ w9, w9 = w8.setCell (ay.add 3) (.int .u8 ax) →
 R (.tuple ⟨[]⟩) w9) ∧ ((!decide (aq = (-1))) = false →
 R (.tuple ⟨[]⟩) w7)) ∧ (decide ((ch : Int) = 1) = false →
 (decide ((ch : Int) = 2) = true →
 ((0 : Int) ≤ 0 ∧ 0 < (ch : Int)) ∧ ∃ az : Addr, ca = some az ∧
 ∃ ba : Int, w1.drew.cell? az = some (.int .u8 ba) ∧
 ∃ bb : Int, IntKind.u64.wrap ba = bb ∧
 (0 : Int) ≤ 16 ∧ ∃ bc : Int, IntKind.u64.wrap (bb * 2 ^ 16) = bc ∧
 ((0 : Int) ≤ 1 ∧ 1 < (ch : Int)) ∧ ∃ bd : Addr, ca = some bd ∧
 ∃ be : Int, w1.drew.cell? (bd.add 1) = some (.int .u8 be) ∧
 ∃ bf : Int, IntKind.u64.wrap be = bf ∧
 (0 : Int) ≤ 8 ∧ ∃ bg : Int, IntKind.u64.wrap (bf * 2 ^ 8) = bg ∧
 ∃ bh : Int, bits .or .u64 bc bg = bh ∧
 (0 : Int) ≤ 18 ∧ ∃ bi : Int, Int.fdiv bh (2 ^ 18) = bi ∧
 ∃ bj : Int, bits .and .u64 bi 63 = bj ∧
 ((0 : Int) ≤ bj ∧ bj < (64 : Int)) ∧
 ∃ bk : Int, w1.drew.cell? (enc.add (bj.toNat * 1)) = some (.int .u8 bk) ∧
 ((0 : Int) ≤ 0 ∧ 0 < (cf : Int)) ∧ ∃ bl : Addr, bz = some bl ∧
 CanStore w1.drew bl (.int .u8 bk) ∧ ∀ w10, w10 = w1.drew.setCell bl (.int .u8 bk) →
 (0 : Int) ≤ 12 ∧ ∃ bm : Int, Int.fdiv bh (2 ^ 12) = bm ∧
 ∃ bn : Int, bits .and .u64 bm 63 = bn ∧
 ((0 : Int) ≤ bn ∧ bn < (64 : Int)) ∧
 ∃ bo : Int, w10.cell? (enc.add (bn.toNat * 1)) = some (.int .u8 bo) ∧
 ((0 : Int) ≤ 1 ∧ 1 < (cf : Int)) ∧ ∃ bp : Addr, bz = some bp ∧
 CanStore w10 (bp.add 1) (.int .u8 bo) ∧ ∀ w11, w11 = w10.setCell (bp.add 1) (.int .u8 bo) →
 (0 : Int) ≤ 6 ∧ ∃ bq : Int, Int.fdiv bh (2 ^ 6) = bq ∧
 ∃ br : Int, bits .and .u64 bq 63 = br ∧
 ((0 : Int) ≤ br ∧ br < (64 : Int)) ∧
 ∃ bs : Int, w11.cell? (enc.add (br.toNat * 1)) = some (.int .u8 bs) ∧
 ((0 : Int) ≤ 2 ∧ 2 < (cf : Int)) ∧ ∃ bt : Addr, bz = some bt ∧
 CanStore w11 (bt.add 2) (.int .u8 bs) ∧ ∀ w12, w12 = w11.setCell (bt.add 2) (.int .u8 bs) →
 ∃ bu : Int, w12.cell? (enc.add 320) = some (.int .i32 bu) ∧
 ((!decide (bu = (-1))) = true →
 ∃ bv : Int, w12.cell? (enc.add 320) = some (.int .i32 bv) ∧
 ∃ bw : Int, IntKind.u8.wrap bv = bw ∧
 ((0 : Int) ≤ 3 ∧ 3 < (cf : Int)) ∧ ∃ bx : Addr, bz = some bx ∧
 CanStore w12 (bx.add 3) (.int .u8 bw) ∧ ∀ w13, w13 = w12.setCell (bx.add 3) (.int .u8 bw) →
 R (.tuple ⟨[]⟩) w13) ∧ ((!decide (bu = (-1))) = false →
 R (.tuple ⟨[]⟩) w12)) ∧ (decide ((ch : Int) = 2) = false →
 R (.tuple ⟨[]⟩) w1)))))
def an210 : Ann :=
 .k (.k .z
 (.cond 1 2 .l .l))
 (.k .z
 (.k (.block (.loop [(1, .slice), (2, .slice)] [0] (.k (.k .z
 (.cond 3 4 .l .l))
 (.block (.k (.reg (.loads (.take 0 (.q) (.take 1 (.s []) (.take 2 (.s [.int .u8]) (.take 3 (.q) (.take 4 (.q) (.take 5 (.q) (.take 6 (.s []) (.take 7 (.s [.int .u8]) (.take 8 (.q) (.take 9 (.q) (.take 10 (.q) (.take 11 (.q) (.take 12 (.s []) (.take 13 (.s [.int .u8]) (.take 14 (.q) (.take 15 (.q) (.take 16 (.q) .done)))))))))))))))))))
 (.k (.t [.q, .s [], .s [.int .u8]])
 (.k (.t [.q, .q, .q, .q, .q, .q, .q, .q, .s [.int .u8], .s []])
 (.k (.t [.q, .q, .q, .q, .q, .q, .q, .q, .s [.int .u8], .s []])
 (.k (.t [.q, .q, .q, .q, .q, .q, .q, .q, .s [.int .u8], .s []])
 (.k (.t [.q, .q, .q, .q, .q, .q, .q, .s [.int .u8], .s []])
 (.k .z
 .z)))))))))))
 (.k .z
 (.block (.k .z
 (.cond 5 6 .l (.k .z
 (.cond 7 8 (.k (.t [.q, .s [], .s [.int .u8]])
 (.k (.t [.q, .q, .q, .q, .q, .q, .q, .q, .s [.int .u8], .s []])
 (.k (.t [.q, .q, .q, .q, .q, .q, .q, .q, .s [.int .u8], .s []])
 (.k (.t [.q, .q, .q, .s [.int .i32]])
 (.cond 9 10 (.k (.t [.q, .q, .q, .q, .s [.int .i32], .q, .s []])
 (.t [.q, .q, .q, .q, .s [.int .i32], .q, .s []])) .l))))) (.k .z
 (.cond 11 12 (.k (.reg (.loads (.take 0 (.q) (.take 1 (.s []) (.take 2 (.s [.int .u8]) (.take 3 (.q) (.take 4 (.q) (.take 5 (.q) (.take 6 (.s []) (.take 7 (.s [.int .u8]) (.take 8 (.q) (.take 9 (.q) (.take 10 (.q) (.take 11 (.q) .done))))))))))))))
 (.k (.t [.q, .q, .q, .q, .q, .q, .q, .q, .s [.int .u8], .s []])
 (.k (.t [.q, .q, .q, .q, .q, .q, .q, .q, .s [.int .u8], .s []])
 (.k (.t [.q, .q, .q, .q, .q, .q, .q, .q, .s [.int .u8], .s []])
 (.k (.t [.q, .q, .q, .s [.int .i32]])
 (.cond 13 14 (.t [.q, .q, .q, .q, .s [.int .i32], .q, .s []]) .l)))))) .l))))))))))
theorem c210 (enc : Addr) (dst : Ptr) (aa ab : Nat) (src : Ptr) (ac ad : Nat) (w : World) (R : RR) (hvc : VC210 enc dst aa ab src ac ad w R) : CR 210 [.pointer (some enc), .slice dst aa ab, .slice src ac ad] w R :=
 vcc (fn := f210) (ann := an210) hvc (by kernel_rfl) (by kernel_rfl)
def VC107 (h : Int) (lx : Int) (w : World) (R : RR) : Prop :=
 ∀ Kx : Int → World → Prop, (∀ aa : Int, ∀ w1,
 ((0 : Int) ≤ 58 ∧ ∃ x22 : Int, Int.fdiv h (2 ^ 58) = x22 ∧
 ∃ x23 : Int, bits .and .u64 x22 31 = x23 ∧
 (decide (x23 = 31) = true →
 R (.string (mkS [78, 97, 78])) w1) ∧ (decide (x23 = 31) = false →
 (decide (x23 = 30) = true →
 (0 ≤ aa ∧ aa ≤ ([45, 73, 110, 102, 105, 110, 105, 116, 121].length : Int)) ∧
 R (.string (mkS ([45, 73, 110, 102, 105, 110, 105, 116, 121].drop aa.toNat))) w1) ∧ (decide (x23 = 30) = false →
 ∀ ab : Int → Int → Int → World → Prop, (∀ exp : Int, ∀ ac : Int, ∀ low : Int, ∀ w2,
 (∃ x46 : Int, IntKind.i64.wrap (exp + (-6176)) = x46 ∧
 ∀ ad : World → Prop, (∀ w3,
 (∀ w4, w4 = w3.alloc (.cells ((zeros prog 234).getD #[]) 234) →
 ∃ x60 : Int, IntKind.i64.wrap (48 + x46) = x60 ∧
 ∀ ae : Int → Int → World → Prop, (∀ af : Int, ∀ ag : Int, ∀ w5,
 (∃ ah : Int, IntKind.i64.wrap (ag - 1) = ah ∧
 ((0 : Int) ≤ ah ∧ ah < (48 : Int)) ∧
 CanStore w5 ((⟨w3.heap.size, 0, none⟩ : Addr).add (ah.toNat * 1)) (.int .u8 45) ∧ ∀ w6, w6 = w5.setCell ((⟨w3.heap.size, 0, none⟩ : Addr).add (ah.toNat * 1)) (.int .u8 45) →
 ∃ ai : Int, IntKind.i64.wrap (ag - 1) = ai ∧
 (decide (0 < af) = true →
 ∃ f : List (Addr × Value), Kept w6 f ∧
 ∃ aj : Int, IntKind.i64.wrap (ai + aa) = aj ∧
 ((0 : Int) ≤ aj ∧ aj ≤ (48 : Int) ∧ (48 : Int) ≤ (48 : Int)) ∧
 (∃ ak : Bs, ∃ w7, (convert 23 9 (.slice (slAddr (some (⟨w3.heap.size, 0, none⟩)) 48 aj.toNat 1) (48 - aj.toNat) (48 - aj.toNat))).run prog w6.drew = .ok (.string (mkS ak)) w7 ∧
 ak.length + [69, 43].length ≤ 9223372036854775807 ∧
 Calls prog 167 ⟨[.int .i64 af]⟩ w7 fun e w8 => ∃ al : Bs, e = .returned (.string (mkS al)) ∧
 (ak ++ [69, 43]).length + al.length ≤ 9223372036854775807 ∧
 R (.string (mkS ((ak ++ [69, 43]) ++ al))) w8) ∧ (Calls prog 167 ⟨[.int .i64 af]⟩ w6.drew fun e w9 => ∃ am : Bs, e = .returned (.string (mkS am)) ∧
 ∃ ao : Bs, ∃ w10, (convert 23 9 (.slice (slAddr (some (⟨w3.heap.size, 0, none⟩)) 48 aj.toNat 1) (48 - aj.toNat) (48 - aj.toNat))).run prog w9 = .ok (.string (mkS ao)) w10 ∧
 ao.length + [69, 43].length ≤ 9223372036854775807 ∧
 (ao ++ [69, 43]).length + am.length ≤ 9223372036854775807 ∧
 R (.string (mkS ((ao ++ [69, 43]) ++ am))) w10)) ∧ (decide (0 < af) = false →
 (decide (af < 0) = true →
 ∃ f_1 : List (Addr × Value), Kept w6 f_1 ∧
 ∃ ap : Int, IntKind.i64.wrap (ai + aa) = ap ∧
 ((0 : Int) ≤ ap ∧ ap ≤ (48 : Int) ∧ (48 : Int) ≤ (48 : Int)) ∧
 (∃ aq : Bs, ∃ w11, (convert 23 9 (.slice (slAddr (some (⟨w3.heap.size, 0, none⟩)) 48 ap.toNat 1) (48 - ap.toNat) (48 - ap.toNat))).run prog w6.drew = .ok (.string (mkS aq)) w11 ∧
 aq.length + [69].length ≤ 9223372036854775807 ∧
 Calls prog 167 ⟨[.int .i64 af]⟩ w11 fun e w12 => ∃ ar : Bs, e = .returned (.string (mkS ar)) ∧
 (aq ++ [69]).length + ar.length ≤ 9223372036854775807 ∧
 R (.string (mkS ((aq ++ [69]) ++ ar))) w12) ∧ (Calls prog 167 ⟨[.int .i64 af]⟩ w6.drew fun e w13 => ∃ au : Bs, e = .returned (.string (mkS au)) ∧
 ∃ av : Bs, ∃ w14, (convert 23 9 (.slice (slAddr (some (⟨w3.heap.size, 0, none⟩)) 48 ap.toNat 1) (48 - ap.toNat) (48 - ap.toNat))).run prog w13 = .ok (.string (mkS av)) w14 ∧
 av.length + [69].length ≤ 9223372036854775807 ∧
 (av ++ [69]).length + au.length ≤ 9223372036854775807 ∧
 R (.string (mkS ((av ++ [69]) ++ au))) w14)) ∧ (decide (af < 0) = false →
 ∃ aw : Int, IntKind.i64.wrap (ai + aa) = aw ∧
 ((0 : Int) ≤ aw ∧ aw ≤ (48 : Int) ∧ (48 : Int) ≤ (48 : Int)) ∧
 ∃ ax : Bs, ∃ w15, (convert 23 9 (.slice (slAddr (some (⟨w3.heap.size, 0, none⟩)) 48 aw.toNat 1) (48 - aw.toNat) (48 - aw.toNat))).run prog w6 = .ok (.string (mkS ax)) w15 ∧
 R (.string (mkS ax)) w15))) → ae af ag w5) →
 ∃ Ix : Nat → Int → Int → Int → Int → Int → Int → Int → World → Prop, (∃ m_2, Ix m_2 x46 ac low 48 48 x60 0 w4) ∧
 ∀ m, ∀ ay : Int, ∀ az : Int, ∀ ba : Int, ∀ bb : Int, ∀ i : Int, ∀ dot : Int, ∀ d9 : Int, ∀ w16, Ix m ay az ba bb i dot d9 w16 →
 (decide (d9 < 5) = true →
 Calls prog 166 ⟨[.int .u64 az, .int .u64 ba, .int .u32 1000000000]⟩ w16 fun e w17 => ∃ x68 bc bd : Int, e = .returned (.tuple ⟨[.int .u64 x68, .int .u64 bc, .int .u32 bd]⟩) ∧
 ∃ be : Nat → Int → Int → Int → Int → Int → Int → World → Prop, (∃ m_5, be m_5 ay bb i dot bd 0 w17) ∧
 ∀ m_3, ∀ bf : Int, ∀ bg : Int, ∀ i_1 : Int, ∀ bh : Int, ∀ rem : Int, ∀ d1 : Int, ∀ w18, be m_3 bf bg i_1 bh rem d1 w18 →
 (decide (d1 < 9) = true →
 ∀ bi : Int → Int → Int → Int → World → Prop, (∀ bj : Int, ∀ bk : Int, ∀ i_2 : Int, ∀ bl : Int, ∀ w19,
 ((10 : Int) ≠ 0 ∧ ∃ bm : Int, Int.tmod rem 10 = bm ∧
 ∃ bn : Int, IntKind.u8.wrap bm = bn ∧
 ∃ bo : Int, IntKind.u8.wrap (48 + bn) = bo ∧
 (10 : Int) ≠ 0 ∧ ∃ bp : Int, IntKind.u32.wrap (Int.tdiv rem 10) = bp ∧
 ∃ bq : Int, IntKind.i64.wrap (i_2 - 1) = bq ∧
 ((0 : Int) ≤ bq ∧ bq < (48 : Int)) ∧
 CanStore w19 ((⟨w3.heap.size, 0, none⟩ : Addr).add (bq.toNat * 1)) (.int .u8 bo) ∧ ∀ w20, w20 = w19.setCell ((⟨w3.heap.size, 0, none⟩ : Addr).add (bq.toNat * 1)) (.int .u8 bo) →
 ∀ br : Int → World → Prop, (∀ bs : Int, ∀ w21,
 (∀ bt : Int → World → Prop, (∀ bu : Int, ∀ w22,
 ((decide (bq < bl) = true →
 (decide (bc = 0) = true →
 (decide (x68 = 0) = true →
 (decide (bp = 0) = true →
 ae bj bu w22) ∧ (decide (bp = 0) = false →
 ∃ x75 : Int, IntKind.i64.wrap (d1 + 1) = x75 ∧
 ∃ m_4, m_4 < m_3 ∧ be m_4 bj bu bq bl bp x75 w22)) ∧ (decide (x68 = 0) = false →
 ∃ bv : Int, IntKind.i64.wrap (d1 + 1) = bv ∧
 ∃ m_4, m_4 < m_3 ∧ be m_4 bj bu bq bl bp bv w22)) ∧ (decide (bc = 0) = false →
 ∃ bw : Int, IntKind.i64.wrap (d1 + 1) = bw ∧
 ∃ m_4, m_4 < m_3 ∧ be m_4 bj bu bq bl bp bw w22)) ∧ (decide (bq < bl) = false →
 ∃ bx : Int, IntKind.i64.wrap (d1 + 1) = bx ∧
 ∃ m_4, m_4 < m_3 ∧ be m_4 bj bu bq bl bp bx w22)) → bt bu w22) →
 ((!decide (bo = 48)) = true →
 bt bq w21) ∧ ((!decide (bo = 48)) = false →
 bt bs w21)) → br bs w21) →
 (decide (bc = 0) = true →
 (decide (x68 = 0) = true →
 (decide (bp = 0) = true →
 (decide (bq = 47) = true →
 ∃ bz : Int, IntKind.i64.wrap (bq - 5) = bz ∧
 (decide (bl < bz) = true →
 ae bj bq w20) ∧ (decide (bl < bz) = false →
 (decide (0 < bj) = true →
 ae bj bq w20) ∧ (decide (0 < bj) = false →
 br bk w20))) ∧ (decide (bq = 47) = false →
 br bk w20)) ∧ (decide (bp = 0) = false →
 br bk w20)) ∧ (decide (x68 = 0) = false →
 br bk w20)) ∧ (decide (bc = 0) = false →
 br bk w20)) → bi bj bk i_2 bl w19) →
 ∀ ca : Bool → World → Prop, (∀ cb : Bool, ∀ w23,
 ((cb = true →
 ∃ cc : Int, IntKind.i64.wrap (48 - i_1) = cc ∧
 ∃ cd : Int, IntKind.i64.wrap (bf + cc) = cd ∧
 ∃ ce : Int, IntKind.i64.wrap (i_1 - 1) = ce ∧
 ((0 : Int) ≤ ce ∧ ce < (48 : Int)) ∧
 CanStore w23 ((⟨w3.heap.size, 0, none⟩ : Addr).add (ce.toNat * 1)) (.int .u8 46) ∧ ∀ w24, w24 = w23.setCell ((⟨w3.heap.size, 0, none⟩ : Addr).add (ce.toNat * 1)) (.int .u8 46) →
 ∃ cf : Int, IntKind.i64.wrap (ce - 1) = cf ∧
 bi cd cf ce 48 w24) ∧ (cb = false →
 bi bf bg i_1 bh w23)) → ca cb w23) →
 (decide (i_1 < 48) = true →
 (decide (bh = i_1) = true →
 ca true w18) ∧ (decide (bh = i_1) = false →
 (decide (bc = 0) = true →
 (decide (x68 = 0) = true →
 (decide (0 < rem) = true →
 (decide (rem < 10) = true →
 ∃ cg : Int, IntKind.i64.wrap (i_1 - 6) = cg ∧
 (decide (bh < cg) = true →
 ca true w18) ∧ (decide (bh < cg) = false →
 ca (decide (0 < bf)) w18)) ∧ (decide (rem < 10) = false →
 ca false w18)) ∧ (decide (0 < rem) = false →
 ca false w18)) ∧ (decide (x68 = 0) = false →
 ca false w18)) ∧ (decide (bc = 0) = false →
 ca false w18))) ∧ (decide (i_1 < 48) = false →
 ca false w18)) ∧ (decide (d1 < 9) = false →
 ∃ x64 : Int, IntKind.i64.wrap (d9 + 1) = x64 ∧
 ∃ m_1, m_1 < m ∧ Ix m_1 bf x68 bc bg i_1 bh x64 w18)) ∧ (decide (d9 < 5) = false →
 ae ay bb w16)) → ad w3) →
 (decide (ac = 0) = true →
 (decide (low = 0) = true →
 (decide (x46 = 0) = true →
 (0 ≤ aa ∧ aa ≤ ([45, 48].length : Int)) ∧
 R (.string (mkS ([45, 48].drop aa.toNat))) w2) ∧ (decide (x46 = 0) = false →
 ad w2)) ∧ (decide (low = 0) = false →
 ad w2)) ∧ (decide (ac = 0) = false →
 ad w2)) → ab exp ac low w2) →
 (0 : Int) ≤ 61 ∧ ∃ x32 : Int, Int.fdiv h (2 ^ 61) = x32 ∧
 ∃ x33 : Int, bits .and .u64 x32 3 = x33 ∧
 (decide (x33 = 3) = true →
 (0 : Int) ≤ 47 ∧ ∃ x36 : Int, Int.fdiv h (2 ^ 47) = x36 ∧
 ∃ x37 : Int, bits .and .u64 x36 16383 = x37 ∧
 ∃ x38 : Int, IntKind.i64.wrap x37 = x38 ∧
 ab x38 0 0 w1) ∧ (decide (x33 = 3) = false →
 (0 : Int) ≤ 49 ∧ ∃ x40 : Int, Int.fdiv h (2 ^ 49) = x40 ∧
 ∃ x41 : Int, bits .and .u64 x40 16383 = x41 ∧
 ∃ x42 : Int, IntKind.i64.wrap x41 = x42 ∧
 ∃ x44 : Int, bits .and .u64 h 562949953421311 = x44 ∧
 ab x42 x44 lx w1)))) → Kx aa w1) →
 (0 : Int) ≤ 63 ∧ ∃ x18 : Int, Int.fdiv h (2 ^ 63) = x18 ∧
 ∃ x19 : Int, bits .and .u64 x18 1 = x19 ∧
 (decide (x19 = 0) = true →
 Kx 1 w) ∧ (decide (x19 = 0) = false →
 Kx 0 w)
def an107 : Ann :=
 .k .z
 (.scope (.k .z
 (.k .z
 (.k .z
 (.cut [(5, .int .i64)] [0, 1] (.k .z
 (.cond 59 60 .z .l))
 (.k (.k .z
 (.block (.k .z
 (.cond 1 2 .zl (.k .z
 (.cond 3 4 .zl .l))))))
 (.k .z
 (.cut [(6, .int .i64), (7, .int .u64), (8, .int .u64)] [5] (.k .z
 (.cond 57 58 (.k .z
 .z) (.k .z
 .z)))
 (.k .z
 (.cut [] [5, 6, 7, 8] (.k (.t [.q, .q, .q, .gs .n 51 52, .q, .q, .q, .on 52 (.q) (.gs .n 53 54)])
 (.on 53 (.cond 55 56 .zl .l) (.no .l)))
 (.k .z
 (.k .z
 (.k .z
 (.k .z
 (.k .z
 (.k .l
 (.cut [(6, .int .i64), (10, .int .i64)] [5, 9] (.k .z
 (.block (.loop [(6, .int .i64), (7, .int .u64), (8, .int .u64), (10, .int .i64), (11, .int .i64), (12, .int .i64), (14, .int .i64)] [5, 9] (.k (.k .z
 (.cond 9 10 .l .l))
 (.k (.block (.k (.t [.q, .q, .s [.int .u64, .int .u64, .int .u32]])
 (.k .z
 (.block (.loop [(6, .int .i64), (10, .int .i64), (11, .int .i64), (12, .int .i64), (13, .int .u32), (15, .int .i64)] [5, 7, 8, 9, 14] (.k (.k .z
 (.cond 11 12 .l .l))
 (.k (.block (.cut [(6, .int .i64), (10, .int .i64), (11, .int .i64), (12, .int .i64)] [5, 7, 8, 9, 13, 14, 15] (.cut [(108, .bool)] [5, 6, 7, 8, 9, 10, 11, 12, 13, 14, 15] (.t [.q, .q, .q, .gs .n 37 38, .q, .q, .q, .on 38 (.q) (.gs .n 39 40), .q, .q, .on 40 (.gs .n 41 42) (.q), .q, .q, .q, .on 41 (.gs .n 43 44) (.q), .q, .q, .q, .on 43 (.gs .n 45 46) (.q), .q, .q, .q, .on 45 (.gs .n 47 48) (.q), .q, .q, .q, .q, .on 47 (.gs .n 49 50) (.q)])
 (.cond 35 36 (.k .z
 (.k .z
 (.k .z
 (.k .z
 .z)))) .l))
 (.k .z
 (.k .z
 (.k .z
 (.k .z
 (.cut [(10, .int .i64)] [5, 6, 7, 8, 9, 11, 12, 13, 14, 15, 16] (.k (.t [.q, .q, .q, .gs .n 23 24, .q, .q, .q, .on 24 (.q) (.gs .n 25 26), .q, .q, .q, .on 25 (.gs .n 27 28) (.q), .q, .q, .q, .on 27 (.gs .n 29 30) (.q), .q, .q, .q, .q, .on 29 (.gs .n 31 32) (.q)])
 (.on 32 (.cond 33 34 .zl .l) (.on 31 (.yes .zl) (.no .l))))
 (.cut [(10, .int .i64)] [5, 6, 7, 8, 9, 11, 12, 13, 14, 15] (.k .z
 (.cond 21 22 .z .l))
 (.k (.t [.q, .q, .q, .q, .gs .n 13 14, .q, .q, .q, .on 14 (.q) (.gs .n 15 16), .q, .q, .q, .on 15 (.gs .n 17 18) (.q)])
 (.on 17 (.cond 19 20 .l .l) (.no .l)))))))))))
 .z)))))))
 .z)))))
 (.k .z
 (.k .z
 (.k (.k .z
 (.cond 5 6 (.k (.reg (.held [4, 7] (.take 0 (.q) (.take 1 (.q) (.take 2 (.q) (.take 3 (.q) (.take 6 (.q) (.run 4 (.s [.str]) (.take 5 (.q) (.run 7 (.s [.str]) (.take 8 (.q) (.take 9 (.q) .done)) .done)) (.run 7 (.s [.str]) (.run 4 (.s [.str]) (.take 5 (.q) (.take 8 (.q) (.take 9 (.q) .done))) .done) .done)))))))))
 .l) .l))
 (.k (.k .z
 (.cond 7 8 (.k (.reg (.held [4, 7] (.take 0 (.q) (.take 1 (.q) (.take 2 (.q) (.take 3 (.q) (.take 6 (.q) (.run 4 (.s [.str]) (.take 5 (.q) (.run 7 (.s [.str]) (.take 8 (.q) (.take 9 (.q) .done)) .done)) (.run 7 (.s [.str]) (.run 4 (.s [.str]) (.take 5 (.q) (.take 8 (.q) (.take 9 (.q) .done))) .done) .done)))))))))
 .l) .l))
 (.k (.t [.q, .q, .q, .q, .s [.str]])
 .l))))))))))))))))))))))
theorem c107 (h : Int) (lx : Int) (w : World) (R : RR) (hvc : VC107 h lx w R) : CR 107 [.int .u64 h, .int .u64 lx] w R :=
 vcc (fn := f107) (ann := an107) hvc (by kernel_rfl) (by kernel_rfl)
def VC166 (h : Int) (lx : Int) (div : Int) (w : World) (R : RR) : Prop :=
 ∃ x23 : Int, IntKind.u64.wrap div = x23 ∧
 (0 : Int) ≤ 32 ∧ ∃ x25 : Int, Int.fdiv h (2 ^ 32) = x25 ∧
 x23 ≠ 0 ∧ ∃ x28 : Int, IntKind.u64.wrap (Int.tdiv x25 x23) = x28 ∧
 x23 ≠ 0 ∧ ∃ x31 : Int, Int.tmod x25 x23 = x31 ∧
 (0 : Int) ≤ 32 ∧ ∃ x33 : Int, IntKind.u64.wrap (x31 * 2 ^ 32) = x33 ∧
 ∃ x35 : Int, bits .and .u64 h 4294967295 = x35 ∧
 ∃ x36 : Int, IntKind.u64.wrap (x33 + x35) = x36 ∧
 x23 ≠ 0 ∧ ∃ x39 : Int, IntKind.u64.wrap (Int.tdiv x36 x23) = x39 ∧
 x23 ≠ 0 ∧ ∃ x42 : Int, Int.tmod x36 x23 = x42 ∧
 (0 : Int) ≤ 32 ∧ ∃ x44 : Int, IntKind.u64.wrap (x42 * 2 ^ 32) = x44 ∧
 (0 : Int) ≤ 32 ∧ ∃ x46 : Int, Int.fdiv lx (2 ^ 32) = x46 ∧
 ∃ x47 : Int, IntKind.u64.wrap (x44 + x46) = x47 ∧
 x23 ≠ 0 ∧ ∃ x50 : Int, IntKind.u64.wrap (Int.tdiv x47 x23) = x50 ∧
 x23 ≠ 0 ∧ ∃ x53 : Int, Int.tmod x47 x23 = x53 ∧
 (0 : Int) ≤ 32 ∧ ∃ x55 : Int, IntKind.u64.wrap (x53 * 2 ^ 32) = x55 ∧
 ∃ x57 : Int, bits .and .u64 lx 4294967295 = x57 ∧
 ∃ x58 : Int, IntKind.u64.wrap (x55 + x57) = x58 ∧
 x23 ≠ 0 ∧ ∃ x61 : Int, IntKind.u64.wrap (Int.tdiv x58 x23) = x61 ∧
 x23 ≠ 0 ∧ ∃ x64 : Int, Int.tmod x58 x23 = x64 ∧
 (0 : Int) ≤ 32 ∧ ∃ x66 : Int, IntKind.u64.wrap (x28 * 2 ^ 32) = x66 ∧
 ∃ x68 : Int, bits .or .u64 x66 x39 = x68 ∧
 (0 : Int) ≤ 32 ∧ ∃ x70 : Int, IntKind.u64.wrap (x50 * 2 ^ 32) = x70 ∧
 ∃ x72 : Int, bits .or .u64 x70 x61 = x72 ∧
 ∃ x74 : Int, IntKind.u32.wrap x64 = x74 ∧
 R (.tuple ⟨[.int .u64 x68, .int .u64 x72, .int .u32 x74]⟩) w
def an166 : Ann :=
 .k .z
 (.k .z
 (.k .z
 (.k .z
 (.k .z
 (.k .z
 (.k .z
 (.k .z
 (.k .z
 (.k .z
 (.k .z
 (.k .z
 (.k .z
 (.k .z
 .zl)))))))))))))
theorem c166 (h : Int) (lx : Int) (div : Int) (w : World) (R : RR) (hvc : VC166 h lx div w R) : CR 166 [.int .u64 h, .int .u64 lx, .int .u32 div] w R :=
 vcc (fn := f166) (ann := an166) hvc (by kernel_rfl) (by kernel_rfl)
end Go.Proofs.Tryz
set_option linter.unusedVariables false
namespace Go.Proofs.Tryz
open Go.Vc Go.RowKit Go.Sort
theorem get_len {s : List UInt8} {k : Nat} (h : k < s.length) : ∃ b, s[k]? = some b ∧ (mkS s).get! k = b := by
  obtain ⟨b, hb⟩ : ∃ b, s[k]? = some b := ⟨_, List.getElem?_eq_getElem h⟩
  exact ⟨b, hb, get_mkS hb⟩
theorem dec_big (s : List UInt8) (pos : Nat) (b : UInt8) (hb : s[pos]? = some b) (h : 128 ≤ b.toNat) :
    128 ≤ (Utf8.decode (mkS s) pos).1 ∧ 1 ≤ (Utf8.decode (mkS s) pos).2 ∧ pos + (Utf8.decode (mkS s) pos).2 ≤ s.length ∧ ∀ j, 1 ≤ j → j < (Utf8.decode (mkS s) pos).2 → ∃ c, s[pos + j]? = some c ∧ 128 ≤ c.toNat := by
  have hlt := (List.getElem?_eq_some_iff.1 hb).1
  have hsz : (mkS s).size = s.length := rfl
  rw [Lib.decode_at, get_mkS hb, hsz]
  have cont : ∀ j, j < s.length - pos → ((mkS s).get! (pos + j)).toNat / 64 = 2 → ∃ c, s[pos + j]? = some c ∧ 128 ≤ c.toNat := by
    intro j hj hc
    obtain ⟨c, h1, h2⟩ := get_len (s := s) (k := pos + j) (by omega)
    rw [h2] at hc
    exact ⟨c, h1, by omega⟩
  unfold Lib.decodeN
  rw [if_neg (by omega)]
  split
  · rename_i h2
    split
    · refine ⟨by simp only; omega, by simp, by simp only; omega, fun j h1 hj => ?_⟩
      have : j = 1 := by simp only at hj; omega
      subst this; exact cont 1 h2.2.1 h2.2.2
    · exact ⟨by simp, by simp, by simp only; omega, fun j h1 hj => by simp only at hj; omega⟩
  split
  · rename_i h3
    split
    · refine ⟨by simp only; omega, by simp, by simp only; omega, fun j h1 hj => ?_⟩
      have : j = 1 ∨ j = 2 := by simp only at hj; omega
      rcases this with rfl | rfl
      · exact cont 1 h3.2.1.1 h3.2.1.2
      · exact cont 2 h3.2.2.1 h3.2.2.2
    · exact ⟨by simp, by simp, by simp only; omega, fun j h1 hj => by simp only at hj; omega⟩
  split
  · rename_i h4
    split
    · refine ⟨by simp only; omega, by simp, by simp only; omega, fun j h1 hj => ?_⟩
      have : j = 1 ∨ j = 2 ∨ j = 3 := by simp only at hj; omega
      rcases this with rfl | rfl | rfl
      · exact cont 1 h4.2.1.1 h4.2.1.2
      · exact cont 2 h4.2.2.1.1 h4.2.2.1.2
      · exact cont 3 h4.2.2.2.1 h4.2.2.2.2
    · exact ⟨by simp, by simp, by simp only; omega, fun j h1 hj => by simp only at hj; omega⟩
  · exact ⟨by simp, by simp, by simp only; omega, fun j h1 hj => by simp only at hj; omega⟩
def hasB (s : List UInt8) (r : Nat) : Bool := s.any fun b => b.toNat == r
theorem hasB_drop_cons {s : List UInt8} {i : Nat} {b : UInt8} (h : s[i]? = some b) (r : Nat) : hasB (s.drop i) r = (b.toNat == r || hasB (s.drop (i + 1)) r) := by
  unfold hasB; rw [drop_cons h]; rfl
theorem hasB_dot (s : List UInt8) : (hasB s 69 || hasB s 46) = dotB s := by
  unfold hasB dotB
  induction s with
  | nil => rfl
  | cons b r ih =>
    have e69 : (b.toNat == 69) = (b == 69) := by
      rw [Bool.eq_iff_iff]; simp only [beq_iff_eq]
      exact ⟨fun h => UInt8.toNat_inj.1 h, fun h => by rw [h]; rfl⟩
    have e46 : (b.toNat == 46) = (b == 46) := by
      rw [Bool.eq_iff_iff]; simp only [beq_iff_eq]
      exact ⟨fun h => UInt8.toNat_inj.1 h, fun h => by rw [h]; rfl⟩
    simp only [List.any_cons, e69, e46]
    rw [← ih]
    cases (b == 69) <;> cases (b == 46) <;> simp
theorem nan_read {n : Nat} (h : nanB n = true) : ∃ s t, FloatKind.f64.format.read n = .nan s t := by
  unfold nanB Ieee.Format.order at h
  cases hr : FloatKind.f64.format.read n with
  | number s m i =>
    rw [hr] at h
    simp [Ieee.Datum.order, Std.ReflCmp.compare_self] at h
  | infinity s =>
    rw [hr] at h
    simp [Ieee.Datum.order, Std.ReflCmp.compare_self] at h
  | nan s t => exact ⟨s, t, rfl⟩
theorem nan_rung {n : Nat} {s : Bool} {t : Nat} (h : FloatKind.f64.format.read n = .nan s t) (m : Nat) (hm : m % FloatKind.f64.format.signWeight = n % FloatKind.f64.format.signWeight) : ∃ s t, FloatKind.f64.format.read m = .nan s t := by
  unfold Ieee.Format.read at h ⊢
  simp only [] at h ⊢
  rw [hm]
  generalize n % FloatKind.f64.format.signWeight = r at *
  split at h
  · cases h
  · rename_i h1
    rw [if_neg h1]
    split at h
    · cases h
    · rename_i h2
      rw [if_neg h2]
      split at h
      · cases h
      · rename_i h3
        rw [if_neg h3]
        exact ⟨_, _, rfl⟩
theorem nan_not_inf {n : Nat} (h : nanB n = true) : infB n = false ∧ ninfB n = false := by
  obtain ⟨s, t, hr⟩ := nan_read h
  refine ⟨?_, ?_⟩
  · unfold infB Ieee.Format.order
    rw [hr]; rfl
  · obtain ⟨s', t', hr'⟩ := nan_rung hr (Op.negFloat .f64 n) (by
      show (n ^^^ 2 ^ 63) % 2 ^ 63 = n % 2 ^ 63
      rw [Nat.xor_mod_two_pow, Nat.mod_self, Nat.xor_zero])
    unfold ninfB Ieee.Format.order
    rw [hr']; rfl
theorem encode_hexAll (l : List UInt8) : Lib.Hx.encode l = hexAll l := by
  unfold Lib.Hx.encode hexAll hex2
  congr 1
section
variable {w0 w : World} {a : Nat} {wx : Addr} {can esc : Bool} {buf : List UInt8} {t : Int} {ms : List Int}
end
theorem ret90 (b : Nat) (hb : b < 256) (w : World) : Ret 90 [.int .u8 (b : Int)] w (.string (mkS (hex2 b))) := by
  refine Ret.of (c90 b w _ ?_)
  unfold VC90
  refine ⟨[], trivial, by decide, ((b / 16 : Nat) : Int), fdiv_nat b 4, hexD (b / 16), ⟨by omega, by rw [Int.toNat_natCast]; exact hexD_get _ (by omega)⟩, ((b % 16 : Nat) : Int), hex_and15 b hb, hexD (b % 16), ⟨by omega, by rw [Int.toNat_natCast]; exact hexD_get _ (by omega)⟩, fun w1 hw1 => ?_⟩
  have hk1 : Keeps w w1 := by rw [hw1]; exact (Keeps.refl w).drew.alloc _
  have hr : ReadsB w1 (some ⟨w.drew.heap.size, 0, none⟩) (hex2 b) := by
    intro j x hj
    refine ⟨_, rfl, ?_⟩
    rw [add_at, hw1, Nat.zero_add, World.cell?_alloc_new]
    simpa [bc, hex2] using bc_at hj
  exact ⟨hex2 b, w1, conv_string hr rfl, rfl, hk1⟩
theorem ret92 (l : List UInt8) (h : l.length = 12) (w : World) : Ret 92 [.agg ⟨bc l⟩] w (.string (mkS (hexAll l))) := by
  obtain ⟨b0, b1, b2, b3, b4, b5, b6, b7, b8, b9, b10, b11, rfl⟩ := cellsT h
  generalize hL : [b0, b1, b2, b3, b4, b5, b6, b7, b8, b9, b10, b11] = L at *
  have hc := c92 (b0.toNat : Int) b1.toNat b2.toNat b3.toNat b4.toNat b5.toNat b6.toNat b7.toNat b8.toNat b9.toNat b10.toNat b11.toNat w (fun v w' => v = .string (mkS (hexAll L)) ∧ Keeps w w') ?_
  · rw [← hL]
    rw [← hL] at hc
    exact Ret.of hc
  unfold VC92
  intro w1 hw1 w2 hw2
  have hk1 : Keeps w w1 := by rw [hw1]; exact (Keeps.refl w).alloc _
  have hv1 : Var w1 w.heap.size 147 (bc L) := by rw [hw1, ← hL]; exact var_alloc w _ 147
  have hk2 : Keeps w1 w2 := by rw [hw2]; exact (Keeps.refl w1).alloc _
  have hv2 : Var w2 w1.heap.size 174 (List.replicate 24 (.int .u8 0)) := by rw [hw2]; exact var_alloc w1 _ 174
  have hv12 := hv1.keeps hk2
  refine ⟨[], trivial, ?_⟩
  have hne := var_ne hv2 hv12 (by decide)
  have hrow : w2.drew.rowIs w1.heap.size 174 24 (fun _ => .int .u8 0) := ⟨⟨List.replicate 24 (.int .u8 0)⟩, hv2, by simp, fun i hi => by
    have : (List.replicate 24 (Value.int .u8 0))[i]? = some (.int .u8 0) := by rw [List.getElem?_replicate, if_pos hi]
    simpa only [List.getElem?_toArray] using this⟩
  have hx : ∀ i, (L.map fun b => (b.toNat : Int)).getD i 0 = ((L.getD i 0).toNat : Int) := by
    intro i
    rw [List.getD_eq_getElem?_getD, List.getD_eq_getElem?_getD, List.getElem?_map]
    cases L[i]? <;> rfl
  have henc := hex_Encode_tag 174 w1.heap.size 0 24 24 24 (fun _ => .int .u8 0) w.heap.size 0 12 12 (L.map fun b => (b.toNat : Int)) w2.drew (by simp [h]) (fun i hi => by rw [hx]; have := (L.getD i 0).toNat_lt; omega) (fun i hi => by
    rw [hx]
    have hg : L[i]? = some (L.getD i 0) := by rw [List.getD_eq_getElem?_getD, List.getElem?_eq_getElem (by omega)]; rfl
    exact hv12.lies.at i (bc_at hg) rfl) hrow (by decide) (by decide) hne (by decide)
  refine henc.mono ?_
  rintro e w3 ⟨rfl, hr3, hg3⟩
  have hkd : Keeps w w2.drew := (hk1.trans hk2).drew
  have hk3 : Keeps w w3 := Below.grown hkd hg3 hkd.size (fun k hk => by cases hk; exact hk1.size)
  have hby : Lib.bytesOf (L.map fun b => (b.toNat : Int)) = L := by
    unfold Lib.bytesOf
    rw [List.map_map]
    conv => rhs; rw [← List.map_id L]
    apply List.map_congr_left
    intro b _
    simp
  rw [hby] at hr3
  have hlen : (hexAll L).length = 24 := by rw [hexAll_len, h]
  have hrd : ReadsB w3 (some ⟨w1.heap.size, 0, none⟩) (hexAll L) := by
    intro j b hj
    have hjl := (List.getElem?_eq_some_iff.1 hj).1
    refine ⟨_, rfl, ?_⟩
    rw [add_at, Nat.zero_add, hr3.cell (by omega)]
    unfold Lib.Hx.row
    rw [if_pos (by omega), encode_hexAll, Nat.sub_zero, hj]; rfl
  exact ⟨_, rfl, hexAll L, w3, conv_string hrd hlen.symm, rfl, hk3⟩
end Go.Proofs.Tryz
set_option linter.unusedVariables false
set_option maxRecDepth 100000
namespace Go.Proofs.Tryz
open Go.Vc
def VC87 (f : Nat) (w : World) (R : RR) : Prop :=
 Calls prog 29 ⟨[.float .f64 f, .int .i64 1]⟩ w fun e w1 => ∃ x13 : Bool, e = .returned (.bool x13) ∧
 (x13 = true →
 R (.string (mkS [73, 110, 102, 105, 110, 105, 116, 121])) w1) ∧ (x13 = false →
 Calls prog 29 ⟨[.float .f64 f, .int .i64 (-1)]⟩ w1 fun e w2 => ∃ x16 : Bool, e = .returned (.bool x16) ∧
 (x16 = true →
 R (.string (mkS [45, 73, 110, 102, 105, 110, 105, 116, 121])) w2) ∧ (x16 = false →
 Calls prog 28 ⟨[.float .f64 f]⟩ w2 fun e w3 => ∃ x19 : Bool, e = .returned (.bool x19) ∧
 (x19 = true →
 R (.string (mkS [78, 97, 78])) w3) ∧ (x19 = false →
 Calls prog 61 ⟨[.float .f64 f, .int .u8 71, .int .i64 (-1), .int .i64 64]⟩ w3 fun e w4 => ∃ x5 : Bs, e = .returned (.string (mkS x5)) ∧
 Calls prog 147 ⟨[.string (mkS x5), .int .i32 46]⟩ w4 fun e w5 => ∃ x7 : Bool, e = .returned (.bool x7) ∧
 ((!x7) = true →
 x5.length + [46, 48].length ≤ 9223372036854775807 ∧
 R (.string (mkS (x5 ++ [46, 48]))) w5) ∧ ((!x7) = false →
 R (.string (mkS x5)) w5))))
def an87 : Ann :=
 .k .z
 (.k .z
 (.k (.block (.k (.t [.q, .s [.bool]])
 (.cond 1 2 .z (.k (.t [.q, .s [.bool]])
 (.cond 3 4 .z (.k (.t [.q, .s [.bool]])
 (.cond 5 6 .z (.k (.t [.q, .s [.str]])
 (.k (.t [.q, .s [.bool]])
 (.cond 7 8 .z .l))))))))))
 .zl))
theorem c87 (f : Nat) (w : World) (R : RR) (hvc : VC87 f w R) : CR 87 [.float .f64 f] w R :=
 vcc (fn := f87) (ann := an87) hvc (by kernel_rfl) (by kernel_rfl)
def VC147 (s : Bs) (r : Int) (w : World) (R : RR) : Prop :=
 Calls prog 208 ⟨[.string (mkS s), .int .i32 r]⟩ w fun e w1 => ∃ x7 : Int, e = .returned (.int .i64 x7) ∧
 R (.bool (decide (0 ≤ x7))) w1
def an147 : Ann :=
 .k .z
 (.k (.t [.q, .q, .s [.int .i64]])
 .l)
theorem c147 (s : Bs) (r : Int) (w : World) (R : RR) (hvc : VC147 s r w R) : CR 147 [.string (mkS s), .int .i32 r] w R :=
 vcc (fn := f147) (ann := an147) hvc (by kernel_rfl) (by kernel_rfl)
def VC208 (s : Bs) (r : Int) (w : World) (R : RR) : Prop :=
 ∀ Kx : World → Prop, (∀ w1,
 (∀ w2, w2 = w1.alloc (.stringIter (mkS s) 0) →
 ∃ Ix : Nat → World → Prop, (∃ m_2, Ix m_2 w2) ∧
 ∀ m, ∀ w3, Ix m w3 →
 ∃ (str : Bs) (pos : Nat), w3.heap[w1.heap.size]? = some (.stringIter (mkS str) pos) ∧
 (pos < str.length → ∀ w4 : World, w4 = { w3 with heap := w3.heap.setIfInBounds w1.heap.size (.stringIter (mkS str) (pos + (Utf8.decode (mkS str) pos).2)) } →
 (decide (((Utf8.decode (mkS str) pos).1 : Int) = r) = true →
 R (.int .i64 (pos : Int)) w4) ∧ (decide (((Utf8.decode (mkS str) pos).1 : Int) = r) = false →
 ∃ m_1, m_1 < m ∧ Ix m_1 w4)) ∧ (¬ pos < str.length →
 R (.int .i64 (-1)) w3)) → Kx w1) →
 ((!decide (r = 65533)) = true →
 (decide (r < 0) = true →
 R (.int .i64 (-1)) w) ∧ (decide (r < 0) = false →
 (decide (1114111 < r) = true →
 R (.int .i64 (-1)) w) ∧ (decide (1114111 < r) = false →
 (decide (55296 ≤ r) = true →
 (decide (r ≤ 57343) = true →
 R (.int .i64 (-1)) w) ∧ (decide (r ≤ 57343) = false →
 Kx w)) ∧ (decide (55296 ≤ r) = false →
 Kx w)))) ∧ ((!decide (r = 65533)) = false →
 Kx w)
def an208 : Ann :=
 .k .z
 (.cut [] [0, 1] (.k (.t [.q, .q, .q, .gs .n 5 6, .q, .q, .on 6 (.q) (.gs .n 7 8), .q, .q, .q, .on 8 (.gs .n 9 10) (.q), .q, .q, .on 10 (.gs .n 11 12) (.q)])
 (.on 6 (.no .l) (.on 12 (.no .l) (.on 11 (.cond 13 14 .zl .l) (.yes .zl)))))
 (.k (.k .z
 (.block (.loop [] [1, 26] (.k (.t [.nx 1 2])
 (.k (.on 2 (.no .l) (.yes .l))
 (.block (.k .z
 (.k .z
 (.cond 3 4 .zl .l)))))))))
 .zl))
theorem c208 (s : Bs) (r : Int) (w : World) (R : RR) (hvc : VC208 s r w R) : CR 208 [.string (mkS s), .int .i32 r] w R :=
 vcc (fn := f208) (ann := an208) hvc (by kernel_rfl) (by kernel_rfl)
def VC89 (b : Ptr) (b_n b_c : Nat) (w : World) (R : RR) : Prop :=
 Calls prog 149 ⟨[.string (mkS [65, 66, 67, 68, 69, 70, 71, 72, 73, 74, 75, 76, 77, 78, 79, 80, 81, 82, 83, 84, 85, 86, 87, 88, 89, 90, 97, 98, 99, 100, 101, 102, 103, 104, 105, 106, 107, 108, 109, 110, 111, 112, 113, 114, 115, 116, 117, 118, 119, 120, 121, 122, 48, 49, 50, 51, 52, 53, 54, 55, 56, 57, 43, 47])]⟩ w fun e w1 => ∃ x3 : Ptr, e = .returned (.pointer x3) ∧
 Calls prog 150 ⟨[.pointer x3, .slice b b_n b_c]⟩ w1 fun e w2 => ∃ x5 : Bs, e = .returned (.string (mkS x5)) ∧
 R (.string (mkS x5)) w2
def an89 : Ann :=
 .k .z
 (.k (.t [.s [.ptr], .q, .s [.str]])
 .l)
theorem c89 (b : Ptr) (b_n b_c : Nat) (w : World) (R : RR) (hvc : VC89 b b_n b_c w R) : CR 89 [.slice b b_n b_c] w R :=
 vcc (fn := f89) (ann := an89) hvc (by kernel_rfl) (by kernel_rfl)
end Go.Proofs.Tryz
