/- Parts of a proof, joined: B6, VQ, B7, B8, B33, B34, B9, B10. -/
import Derived.Test.YtfofafjemgfobaaGreatDoorX16
import Derived.Test.YtfofafjemgfobaaGreatDoorX4
import Derived.Shelf.Bytes.IndexByte
set_option linter.unusedVariables false
namespace Go.Proofs.Tryz
open Go.Vc Go.RowKit Go.Sort
def memT (T : Val → List UInt8) (q : List UInt8 × Val) : List UInt8 := [34] ++ q.1 ++ [34, 58, 32] ++ T q.2
def longT (T O : Val → List UInt8) (x : Val) : List UInt8 :=
  if x.kind = 3 then [123] ++ joinK (x.kids.map (memT T)) ++ [125] else if x.kind = 4 then [91] ++ joinK (x.kids.map fun q => T q.2) ++ [93] else O x
def longV (F : Nat → List UInt8) : Nat → Val → List UInt8
  | 0, _ => []
  | d + 1, x => longT (longV F d) (textV F true true (d + 1)) x
theorem joinK_take_len (ps : List (List UInt8)) (N : Nat) (h : (joinK ps).length ≤ N) (k : Nat) : (joinK (ps.take k)).length ≤ N := Nat.le_trans (joinK_take_le ps k) h
theorem longV_len {F : Nat → List UInt8} (hF : FloatIs F) (w : World) (ht : Tabs w) : ∀ (d : Nat) (x : Val) (bp kp : Option Addr) (bc kc : Nat), Hangs d w x bp bc kp kc → FitsV d x →
    (longV F (d + 1) x).length + 10000 ≤ 50000 * nparts d x ∧ (joinK (x.kids.map (memT (longV F d)))).length ≤ 50000 * nparts d x ∧ (joinK (x.kids.map fun q => longV F d q.2)).length ≤ 50000 * nparts d x := by
  intro d
  induction d with
  | zero =>
    intro x bp kp bc kc hh hf
    have hk : x.kids = [] := hf.2
    have h1 := (textV_len hF true true w ht 0 x bp kp bc kc hh hf).1
    refine ⟨?_, by rw [hk]; simp [joinK], by rw [hk]; simp [joinK]⟩
    show (longT (longV F 0) (textV F true true 1) x).length + 10000 ≤ _
    unfold longT
    rw [hk]
    split
    · simp [joinK, nparts]
    · split
      · simp [joinK, nparts]
      · exact h1
  | succ d ih =>
    intro x bp kp bc kc hh hf
    have hel : ∀ n y, (n, y) ∈ x.kids → (memT (longV F (d + 1)) (n, y)).length + 1 ≤ 50000 * nparts d y ∧ (longV F (d + 1) y).length + 1 ≤ 50000 * nparts d y := by
      intro n y hm
      obtain ⟨i, hi⟩ := List.mem_iff_getElem?.1 hm
      obtain ⟨ka, bp', bc', kp', kc', _, _, hy⟩ := hh.kid hi
      obtain ⟨d', hd', htn, hfy⟩ := hf.kid hi
      have hd'' : d = d' := by omega
      subst hd''
      have := (ih y _ _ _ _ hy hfy).1
      have hn := textF_len htn
      refine ⟨?_, by omega⟩
      simp only [memT, List.length_append, List.length_cons, List.length_nil]; omega
    have j1 : (joinK (x.kids.map (memT (longV F (d + 1))))).length ≤ 50000 * (x.kids.map fun p => nparts d p.2).sum := by
      refine Nat.le_trans (joinK_len _) ?_
      rw [List.map_map, ← sum_mul_map]
      exact sum_le_map _ _ _ fun q hq => (hel q.1 q.2 hq).1
    have j2 : (joinK (x.kids.map fun q => longV F (d + 1) q.2)).length ≤ 50000 * (x.kids.map fun p => nparts d p.2).sum := by
      refine Nat.le_trans (joinK_len _) ?_
      rw [List.map_map, ← sum_mul_map]
      exact sum_le_map _ _ _ fun q hq => (hel q.1 q.2 hq).2
    have h1 := (textV_len hF true true w ht (d + 1) x bp kp bc kc hh hf).1
    refine ⟨?_, by simp only [nparts]; omega, by simp only [nparts]; omega⟩
    show (longT (longV F (d + 1)) (textV F true true (d + 1 + 1)) x).length + 10000 ≤ _
    unfold longT
    simp only [nparts] at h1 ⊢
    split
    · simp only [List.length_append, List.length_cons, List.length_nil]; omega
    · split
      · simp only [List.length_append, List.length_cons, List.length_nil]; omega
      · exact h1
theorem ret12 {F : Nat → List UInt8} (hF : FloatIs F) : ∀ (d : Nat) (x : Val) (bp kp : Option Addr) (bc kc : Nat) (w : World), Tabs w → Hangs d w x bp bc kp kc → FitsV d x → RightV d x → nparts d x ≤ 1000 →
    Ret 12 [.agg ⟨valCells x bp bc kp kc⟩] w (.string (mkS (longV F (d + 1) x))) := by
  intro d
  induction d using Nat.strongRecOn with
  | _ d ih =>
  intro x bp kp bc kc w ht hh hf hr hp
  have ho := hh.own
  have hkn := ho.2.2.2.2.2.2.2
  obtain ⟨len0, len1, len2⟩ := longV_len hF w ht d x bp kp bc kc hh hf
  refine Ret.of (c12 _ _ _ _ _ _ _ _ _ _ _ _ w _ ?_)
  unfold VC12
  intro w1 hw1
  have hk1 : Keeps w w1 := by rw [hw1]; exact (Keeps.refl w).alloc _
  have hv1 : Var w1 w.heap.size 26 (valCells x bp bc kp kc) := by rw [hw1]; exact var_alloc w _ 26
  clear hw1
  -- a kid
  have kid : (x.kind = 3 ∨ x.kind = 4) → ∀ (k : Nat) (n : List UInt8) (y : Val), x.kids[k]? = some (n, y) → ∃ (ka : Addr) (bp' : Option Addr) (bc' : Nat) (kp' : Option Addr) (kc' : Nat), kp = some ka ∧
      LoadsRow prog 46 w (ka.add (k * 9)) (Value.string (mkS n) :: valCells y bp' bc' kp' kc') ∧ n.length ≤ 300 ∧ (longV F d y).length ≤ 50000000 ∧
      ∀ w', Keeps w w' → Ret 12 [.agg ⟨valCells y bp' bc' kp' kc'⟩] w' (.string (mkS (longV F d y))) := by
    intro hx k n y hi
    obtain ⟨d', hd', htn, hfy⟩ := hf.kid hi
    subst hd'
    obtain ⟨ka, bp', bc', kp', kc', hka, hrow, hhy⟩ := hh.kid hi
    have hpk := nparts_kid (d := d') (List.mem_of_getElem? hi)
    have hl := (longV_len hF w ht d' y _ _ _ _ hhy hfy).1
    refine ⟨ka, bp', bc', kp', kc', hka, hrow, textF_len htn, by omega, fun w' hk' => ?_⟩
    exact ih d' (by omega) y bp' kp' bc' kc' w' (ht.keeps hk') (hhy.keeps hk') hfy (hr.2 (by omega) n y (List.mem_of_getElem? hi)) (by omega)
  refine ⟨x.kind, hv1.lies.at 0 rfl rfl, fun h3 => ?_, fun h3 => ⟨fun h4 => ?_, fun h4 => ?_⟩⟩
  · have h3 : x.kind = 3 := of_decide_eq_true h3
    let ps : List (List UInt8) := x.kids.map (memT (longV F d))
    have hps : ps.length = x.kids.length := by simp [ps]
    have hN : (joinK ps).length ≤ 50000000 := Nat.le_trans len1 (by omega)
    refine ⟨kp, x.kids.length, kc, hv1.lies.at 7 rfl rfl, fun m s i w2 => Keeps w1 w2 ∧ ∃ k : Nat, i = k ∧ k ≤ x.kids.length ∧ m = x.kids.length - k ∧ s = [123] ++ joinK (ps.take k), ⟨x.kids.length, Keeps.refl _, 0, rfl, by omega, rfl, by simp [joinK]⟩, ?_⟩
    rintro m s i w2 ⟨hk2, k, rfl, hkl, rfl, rfl⟩
    have hle := joinK_take_len ps _ hN k
    refine ⟨fun hlt => ?_, fun hge => ?_⟩
    · have hlt : k < x.kids.length := by have := of_decide_eq_true hlt; omega
      have hget := List.getElem?_eq_getElem hlt
      rcases hny : x.kids[k]'hlt with ⟨n, y⟩
      rw [hny] at hget
      obtain ⟨ka, bp', bc', kp', kc', hka, hrow, hnl, hyl, hret⟩ := kid (.inl h3) k n y hget
      have hk02 := hk1.trans hk2
      refine ⟨⟨by omega, by omega⟩, ka, hka, _, _, _, _, _, _, _, _, _, _, _, _, _, loadsRow_keeps hrow hk02, fun w3 hw3 => ?_⟩
      obtain ⟨w4, hst, hk4, hs4, hv4⟩ := store_new (t := 46) (cs := Value.string (mkS n) :: valCells y bp' bc' kp' kc') hw3 n46 rfl rfl rfl
      refine ⟨w4, hst, ?_⟩
      intro K2 hK2
      have hk04 := hk02.trans hk4
      have hgetp : ps[k]? = some (memT (longV F d) (n, y)) := by simp [ps, hget]
      have htk : ps.take (k + 1) = ps.take k ++ [memT (longV F d) (n, y)] := take_succ_get ps k _ hgetp
      have hj := joinK_snoc (ps.take k) (memT (longV F d) (n, y))
      rw [← htk] at hj
      have hml : (memT (longV F d) (n, y)).length ≤ 50001000 := by simp only [memT, List.length_append, List.length_cons, List.length_nil]; omega
      have key : ∀ s1 : List UInt8, s1 ++ memT (longV F d) (n, y) = [123] ++ joinK (ps.take (k + 1)) → s1.length ≤ 50000010 → K2 s1 w4 := by
        intro s1 he hs1
        refine hK2 s1 w4 ⟨n, y.kind, y.text, y.more, y.num, y.bits, y.high, bp', y.b.length, bc', kp', y.kids.length, kc', hv4.lies.row n46, ?_⟩
        have h44 : Ret 44 [.agg ⟨Value.string (mkS n) :: valCells y bp' bc' kp' kc'⟩] w4 (.string (mkS (memT (longV F d) (n, y)))) := by
          refine Ret.of (c44 n y.kind y.text y.more y.num y.bits y.high bp' y.b.length bc' kp' y.kids.length kc' w4 _ ?_)
          unfold VC44
          intro w5 hw5
          have hk5 : Keeps w4 w5 := by rw [hw5]; exact (Keeps.refl w4).alloc _
          have hv5 : Var w5 w4.heap.size 46 (Value.string (mkS n) :: valCells y bp' bc' kp' kc') := by rw [hw5]; exact var_alloc w4 _ 46
          have kept5 := hv5.lies.kept
          have mem5 : ∀ (j : Nat) (v : Value), (Value.string (mkS n) :: valCells y bp' bc' kp' kc')[j]? = some v → ((⟨w4.heap.size, j, none⟩ : Addr), v) ∈ rowFacts w4.heap.size 0 (Value.string (mkS n) :: valCells y bp' bc' kp' kc') := fun j v hj => by
            have := mem_rowFacts (b := w4.heap.size) (o := 0) hj
            rwa [Nat.zero_add] at this
          have dr5 : Keeps w5 w5.drew := (Keeps.refl w5).drew
          refine ⟨_, kept5, n, mem5 0 _ rfl, by simp; omega, by simp; omega, y.kind, y.text, y.more, y.num, y.bits, y.high, bp', y.b.length, bc', kp', y.kids.length, kc', ⟨n26, fun i v hi => by have := mem5 (i + 1) v hi; rw [add_at, Nat.add_comm]; exact this⟩, ?_⟩
          exact (hret w5.drew (((hk04.trans hk5).trans dr5))).go fun w6 hk6 => ⟨_, rfl, kept_keeps kept5 (dr5.trans hk6), by simp; omega, rfl, (hk5.trans dr5).trans hk6⟩
        exact h44.go fun w6 hk6 => ⟨_, rfl, by omega, _, i64w (by omega) (by omega), x.kids.length - (k + 1), by omega, (hk2.trans hk4).trans hk6, k + 1, by omega, by omega, rfl, he⟩
      have hnil : ps.take k = [] ↔ k = 0 := by rw [← List.length_eq_zero_iff, List.length_take]; omega
      refine ⟨fun hp => ⟨by simp; omega, key _ ?_ (by simp; omega)⟩, fun hp => key _ ?_ (by simp; omega)⟩
      · have hp : ¬ k = 0 := by have := of_decide_eq_true hp; omega
        rw [hj, if_neg (fun e => hp (hnil.1 e))]; simp
      · have hp : k = 0 := by have := of_decide_eq_false hp; omega
        rw [hj, if_pos (hnil.2 hp)]; simp
    · have hge := of_decide_eq_false hge
      have hall : ps.take k = ps := List.take_of_length_le (by omega)
      rw [hall]
      refine ⟨by simp; omega, ?_, hk1.trans hk2⟩
      show Value.string (mkS ([123] ++ joinK ps ++ [125])) = .string (mkS (longT (longV F d) (textV F true true (d + 1)) x))
      unfold longT; rw [if_pos h3]
  · have h4 : x.kind = 4 := of_decide_eq_true h4
    have h3 : ¬ x.kind = 3 := of_decide_eq_false h3
    let ps : List (List UInt8) := x.kids.map fun q => longV F d q.2
    have hps : ps.length = x.kids.length := by simp [ps]
    have hN : (joinK ps).length ≤ 50000000 := Nat.le_trans len2 (by omega)
    refine ⟨kp, x.kids.length, kc, hv1.lies.at 7 rfl rfl, fun m s i w2 => Keeps w1 w2 ∧ ∃ k : Nat, i = k ∧ k ≤ x.kids.length ∧ m = x.kids.length - k ∧ s = [91] ++ joinK (ps.take k), ⟨x.kids.length, Keeps.refl _, 0, rfl, by omega, rfl, by simp [joinK]⟩, ?_⟩
    rintro m s i w2 ⟨hk2, k, rfl, hkl, rfl, rfl⟩
    have hle := joinK_take_len ps _ hN k
    refine ⟨fun hlt => ?_, fun hge => ?_⟩
    · have hlt : k < x.kids.length := by have := of_decide_eq_true hlt; omega
      have hget := List.getElem?_eq_getElem hlt
      rcases hny : x.kids[k]'hlt with ⟨n, y⟩
      rw [hny] at hget
      obtain ⟨ka, bp', bc', kp', kc', hka, hrow, hnl, hyl, hret⟩ := kid (.inr h4) k n y hget
      have hk02 := hk1.trans hk2
      refine ⟨⟨by omega, by omega⟩, ka, hka, _, _, _, _, _, _, _, _, _, _, _, _, _, loadsRow_keeps hrow hk02, fun w3 hw3 => ?_⟩
      obtain ⟨w4, hst, hk4, hs4, hv4⟩ := store_new (t := 46) (cs := Value.string (mkS n) :: valCells y bp' bc' kp' kc') hw3 n46 rfl rfl rfl
      refine ⟨w4, hst, ?_⟩
      intro K2 hK2
      have hk04 := hk02.trans hk4
      have hgetp : ps[k]? = some (longV F d y) := by simp [ps, hget]
      have htk : ps.take (k + 1) = ps.take k ++ [longV F d y] := take_succ_get ps k _ hgetp
      have hj := joinK_snoc (ps.take k) (longV F d y)
      rw [← htk] at hj
      have key : ∀ s1 : List UInt8, s1 ++ longV F d y = [91] ++ joinK (ps.take (k + 1)) → s1.length ≤ 50000010 → K2 s1 w4 := by
        intro s1 he hs1
        refine hK2 s1 w4 ⟨y.kind, y.text, y.more, y.num, y.bits, y.high, bp', y.b.length, bc', kp', y.kids.length, kc', (hv4.lies.sub 1 8).row n26, ?_⟩
        exact (hret w4 hk04).go fun w6 hk6 => ⟨_, rfl, by omega, _, i64w (by omega) (by omega), x.kids.length - (k + 1), by omega, (hk2.trans hk4).trans hk6, k + 1, by omega, by omega, rfl, he⟩
      have hnil : ps.take k = [] ↔ k = 0 := by rw [← List.length_eq_zero_iff, List.length_take]; omega
      refine ⟨fun hp => ⟨by simp; omega, key _ ?_ (by simp; omega)⟩, fun hp => key _ ?_ (by simp; omega)⟩
      · have hp : ¬ k = 0 := by have := of_decide_eq_true hp; omega
        rw [hj, if_neg (fun e => hp (hnil.1 e))]; simp
      · have hp : k = 0 := by have := of_decide_eq_false hp; omega
        rw [hj, if_pos (hnil.2 hp)]; simp
    · have hge := of_decide_eq_false hge
      have hall : ps.take k = ps := List.take_of_length_le (by omega)
      rw [hall]
      refine ⟨by simp; omega, ?_, hk1.trans hk2⟩
      show Value.string (mkS ([91] ++ joinK ps ++ [93])) = .string (mkS (longT (longV F d) (textV F true true (d + 1)) x))
      unfold longT; rw [if_neg h3, if_pos h4]
  · have h4 : ¬ x.kind = 4 := of_decide_eq_false h4
    have h3 : ¬ x.kind = 3 := of_decide_eq_false h3
    refine ⟨_, _, _, _, _, _, _, _, _, _, _, _, hv1.lies.row n26, ?_⟩
    refine (ret9 hF true true d x bp kp bc kc w1 (ht.keeps hk1) (hh.keeps hk1) hf hr hp).go fun w2 hk2 => ⟨_, _, rfl, ?_, hk1.trans hk2⟩
    show Value.string (mkS (textV F true true (d + 1) x)) = .string (mkS (longT (longV F d) (textV F true true (d + 1)) x))
    unfold longT; rw [if_neg h3, if_neg h4]
end Go.Proofs.Tryz
set_option linter.unusedVariables false
set_option maxRecDepth 100000
namespace Go.Proofs.Tryz
open Go.Vc
def VC108 (str : Bs) (aa : Int) (w : World) (R : RR) : Prop :=
 (decide (aa ≤ 0) = true →
 R (.string (mkS [])) w) ∧ (decide (aa ≤ 0) = false →
 (decide ((str.length : Int) ≤ aa) = true →
 R (.string (mkS str)) w) ∧ (decide ((str.length : Int) ≤ aa) = false →
 ∃ x15 : UInt8, ((0 : Int) ≤ aa ∧ str[aa.toNat]? = some x15) ∧
 Calls prog 168 ⟨[.int .u8 (x15.toNat : Int)]⟩ w fun e w1 => ∃ x16 : Bool, e = .returned (.bool x16) ∧
 (x16 = true →
 (0 ≤ aa ∧ aa ≤ (str.length : Int)) ∧
 R (.string (mkS (str.take aa.toNat))) w1) ∧ (x16 = false →
 ∃ Ix : Nat → Int → World → Prop, (∃ m_2, Ix m_2 aa w1) ∧
 ∀ m, ∀ i : Int, ∀ w2, Ix m i w2 →
 (decide (0 < i) = true →
 ∃ x26 : UInt8, ((0 : Int) ≤ i ∧ str[i.toNat]? = some x26) ∧
 Calls prog 168 ⟨[.int .u8 (x26.toNat : Int)]⟩ w2 fun e w3 => ∃ x27 : Bool, e = .returned (.bool x27) ∧
 ((!x27) = true →
 ∃ x31 : Int, IntKind.i64.wrap (i - 1) = x31 ∧
 ∃ m_1, m_1 < m ∧ Ix m_1 x31 w3) ∧ ((!x27) = false →
 (0 ≤ i ∧ i ≤ (str.length : Int)) ∧
 R (.string (mkS (str.take i.toNat))) w3)) ∧ (decide (0 < i) = false →
 (0 ≤ i ∧ i ≤ (str.length : Int)) ∧
 R (.string (mkS (str.take i.toNat))) w2))))
def an108 : Ann :=
 .k .z
 (.k (.k .z
 (.cond 1 2 .zl .l))
 (.k (.k .z
 (.cond 3 4 .zl .l))
 (.k (.k (.t [.q, .q, .q, .s [.bool]])
 (.cond 5 6 .zl .l))
 (.k .z
 (.k (.block (.loop [(5, .int .i64)] [0] (.k (.k (.t [.q, .q, .q, .gs .n 7 8, .q, .q, .on 8 (.q) (.s [.bool])])
 (.on 8 (.no .l) (.cond 9 10 .l .l)))
 (.block .z))))
 .zl)))))
theorem c108 (str : Bs) (aa : Int) (w : World) (R : RR) (hvc : VC108 str aa w R) : CR 108 [.string (mkS str), .int .i64 aa] w R :=
 vcc (fn := f108) (ann := an108) hvc (by kernel_rfl) (by kernel_rfl)
def VC168 (b : Int) (w : World) (R : RR) : Prop :=
 ∃ x4 : Int, bits .and .u8 b 192 = x4 ∧
 R (.bool (!decide (x4 = 128))) w
def an168 : Ann :=
 .k .z
 .zl
theorem c168 (b : Int) (w : World) (R : RR) (hvc : VC168 b w R) : CR 168 [.int .u8 b] w R :=
 vcc (fn := f168) (ann := an168) hvc (by kernel_rfl) (by kernel_rfl)
def VC73 (src : Ptr) (ac ad : Nat) (w : World) (R : RR) : Prop :=
 Calls prog 133 ⟨[.slice src ac ad]⟩ w fun e w1 => ∃ x9 : Int, ∃ (ab : Ptr) (ae af : Nat), ∃ aa : Bool, e = .returned (.tuple ⟨[.int .i32 x9, .slice ab ae af, .bool aa]⟩) ∧
 (decide (x9 < 0) = true →
 R (.tuple ⟨[.int .i32 x9, .slice ab ae af, .bool false]⟩) w1) ∧ (decide (x9 < 0) = false →
 R (.tuple ⟨[.int .i32 x9, .slice ab ae af, .bool aa]⟩) w1)
def an73 : Ann :=
 .k .z
 (.k (.t [.q, .s [.int .i32, .slice, .bool]])
 (.k (.k .z
 (.cond 1 2 .zl .l))
 .zl))
theorem c73 (src : Ptr) (aa ab : Nat) (w : World) (R : RR) (hvc : VC73 src aa ab w R) : CR 73 [.slice src aa ab] w R :=
 vcc (fn := f73) (ann := an73) hvc (by kernel_rfl) (by kernel_rfl)
def VC133 (src : Ptr) (af ag : Nat) (w : World) (R : RR) : Prop :=
 (decide ((af : Int) < 4) = true →
 R (.tuple ⟨[.int .i32 0, .slice src af ag, .bool false]⟩) w) ∧ (decide ((af : Int) < 4) = false →
 ((0 : Int) ≤ 3 ∧ 3 < (af : Int)) ∧ ∃ aa : Addr, src = some aa ∧
 ∃ x12 : Int, w.cell? (aa.add 3) = some (.int .u8 x12) ∧
 ((0 : Int) ≤ 0 ∧ 0 < (af : Int)) ∧ ∃ ab : Addr, src = some ab ∧
 ∃ x15 : Int, w.drew.cell? ab = some (.int .u8 x15) ∧
 ∃ x16 : Int, IntKind.i32.wrap x15 = x16 ∧
 ((0 : Int) ≤ 1 ∧ 1 < (af : Int)) ∧ ∃ ac : Addr, src = some ac ∧
 ∃ x19 : Int, w.drew.cell? (ac.add 1) = some (.int .u8 x19) ∧
 ∃ x20 : Int, IntKind.i32.wrap x19 = x20 ∧
 (0 : Int) ≤ 8 ∧ ∃ x21 : Int, IntKind.i32.wrap (x20 * 2 ^ 8) = x21 ∧
 ∃ x22 : Int, bits .or .i32 x16 x21 = x22 ∧
 ((0 : Int) ≤ 2 ∧ 2 < (af : Int)) ∧ ∃ ad : Addr, src = some ad ∧
 ∃ x25 : Int, w.drew.cell? (ad.add 2) = some (.int .u8 x25) ∧
 ∃ x26 : Int, IntKind.i32.wrap x25 = x26 ∧
 (0 : Int) ≤ 16 ∧ ∃ x27 : Int, IntKind.i32.wrap (x26 * 2 ^ 16) = x27 ∧
 ∃ x28 : Int, bits .or .i32 x22 x27 = x28 ∧
 ((0 : Int) ≤ 3 ∧ 3 < (af : Int)) ∧ ∃ ae : Addr, src = some ae ∧
 ∃ x31 : Int, w.drew.cell? (ae.add 3) = some (.int .u8 x31) ∧
 ∃ x32 : Int, IntKind.i32.wrap x31 = x32 ∧
 (0 : Int) ≤ 24 ∧ ∃ x33 : Int, IntKind.i32.wrap (x32 * 2 ^ 24) = x33 ∧
 ∃ x34 : Int, bits .or .i32 x28 x33 = x34 ∧
 ((0 : Int) ≤ 4 ∧ 4 ≤ (af : Int) ∧ (af : Int) ≤ (ag : Int)) ∧
 R (.tuple ⟨[.int .i32 x34, .slice (slAddr src ag 4 1) (af - 4) (ag - 4), .bool true]⟩) w.drew.drew)
def an133 : Ann :=
 .k .z
 (.k (.k .z
 (.cond 1 2 .zl .l))
 (.k (.t [.q, .s [], .s [.int .u8]])
 (.k (.reg (.loads (.take 0 (.q) (.take 1 (.s []) (.take 2 (.s [.int .u8]) (.take 3 (.q) (.take 4 (.q) (.take 5 (.s []) (.take 6 (.s [.int .u8]) (.take 7 (.q) (.take 8 (.q) (.take 9 (.q) (.take 10 (.q) (.take 11 (.s []) (.take 12 (.s [.int .u8]) (.take 13 (.q) (.take 14 (.q) (.take 15 (.q) (.take 16 (.q) (.take 17 (.s []) (.take 18 (.s [.int .u8]) (.take 19 (.q) (.take 20 (.q) (.take 21 (.q) (.take 22 (.q) .done)))))))))))))))))))))))))
 (.k (.reg (.loads (.take 0 (.q) (.take 1 (.q) (.take 2 (.q) (.take 3 (.q) (.take 4 (.q) (.take 5 (.q) .done))))))))
 .l))))
theorem c133 (src : Ptr) (aa ab : Nat) (w : World) (R : RR) (hvc : VC133 src aa ab w R) : CR 133 [.slice src aa ab] w R :=
 vcc (fn := f133) (ann := an133) hvc (by kernel_rfl) (by kernel_rfl)
def VC136 (b : Ptr) (b_n b_c : Nat) (c : Int) (w : World) (R : RR) : Prop :=
 ∃ x7 : Int, ∃ w1, (callFunc 199 ⟨[.slice b b_n b_c, .int .u8 c]⟩).run prog w = .ok (.value (.int .i64 x7)) w1 ∧
 R (.int .i64 x7) w1
def an136 : Ann :=
 .k .z
 (.k (.t [.q, .q, .s [.int .i64]])
 .l)
theorem c136 (b : Ptr) (b_n b_c : Nat) (c : Int) (w : World) (R : RR) (hvc : VC136 b b_n b_c c w R) : CR 136 [.slice b b_n b_c, .int .u8 c] w R :=
 vcc (fn := f136) (ann := an136) hvc (by kernel_rfl) (by kernel_rfl)
end Go.Proofs.Tryz
set_option linter.unusedVariables false
namespace Go.Proofs.Tryz
open Go.Vc Go.RowKit
def cutG : Nat → List UInt8 → Nat → Nat
  | 0, _, _ => 0
  | f + 1, s, n => if s = [] ∨ (runeF s).1 = 0 ∨ n < (runeF s).1 then 0 else (runeF s).1 + cutG f (s.drop (runeF s).1) (n - (runeF s).1)
def cutL (s : List UInt8) (n : Nat) : Nat := cutG s.length s n
theorem cutG_fuel : ∀ (f g : Nat) (s : List UInt8) (n : Nat), s.length ≤ f → s.length ≤ g → cutG f s n = cutG g s n
  | 0, g, s, n, hf, hg => by
    have : s = [] := List.eq_nil_of_length_eq_zero (by omega)
    subst this
    cases g <;> simp [cutG]
  | f + 1, 0, s, n, hf, hg => by
    have : s = [] := List.eq_nil_of_length_eq_zero (by omega)
    subst this
    simp [cutG]
  | f + 1, g + 1, s, n, hf, hg => by
    unfold cutG
    split
    · rfl
    · rename_i h
      have h0 : (runeF s).1 ≠ 0 := fun e => h (.inr (.inl e))
      have hs : s ≠ [] := fun e => h (.inl e)
      have hp : 0 < s.length := List.length_pos_iff.2 hs
      rw [cutG_fuel f g (s.drop (runeF s).1) _ (by rw [List.length_drop]; omega) (by rw [List.length_drop]; omega)]
theorem cutL_nil (n : Nat) : cutL [] n = 0 := rfl
theorem cutL_cons (s : List UInt8) (n : Nat) (hs : s ≠ []) : cutL s n = if (runeF s).1 = 0 ∨ n < (runeF s).1 then 0 else (runeF s).1 + cutL (s.drop (runeF s).1) (n - (runeF s).1) := by
  unfold cutL
  have hp : 0 < s.length := List.length_pos_iff.2 hs
  obtain ⟨m, hm⟩ : ∃ m, s.length = m + 1 := ⟨s.length - 1, by omega⟩
  rw [hm, cutG]
  by_cases h : (runeF s).1 = 0 ∨ n < (runeF s).1
  · rw [if_pos h, if_pos (.inr h)]
  · rw [if_neg h, if_neg (fun e => by rcases e with e | e; exact hs e; exact h e)]
    have h0 : (runeF s).1 ≠ 0 := fun e => h (.inl e)
    rw [cutG_fuel m (s.drop (runeF s).1).length _ _ (by rw [List.length_drop]; omega) (Nat.le_refl _)]
theorem cutL_le : ∀ (m : Nat) (s : List UInt8) (n : Nat), s.length ≤ m → cutL s n ≤ n ∧ cutL s n ≤ s.length
  | 0, s, n, h => by
    have : s = [] := List.eq_nil_of_length_eq_zero (by omega)
    subst this; simp [cutL_nil]
  | m + 1, s, n, h => by
    by_cases hs : s = []
    · subst hs; simp [cutL_nil]
    · rw [cutL_cons s n hs]
      split
      · omega
      · rename_i hh
        have hr := runeF_le s
        have := cutL_le m (s.drop (runeF s).1) (n - (runeF s).1) (by rw [List.length_drop]; omega)
        rw [List.length_drop] at this
        omega
theorem ret15 (s : List UInt8) (n : Nat) (hs : s.length ≤ 1000000000) (hn : n ≤ 1000000000) (w : World) : Ret 15 [.string (mkS s), .int .i64 (n : Int)] w (.string (mkS (s.take (cutL s n)))) := by
  refine Ret.of (c15 s (n : Int) w _ ?_)
  unfold VC15
  refine ⟨fun m i w1 => Keeps w w1 ∧ ∃ k : Nat, i = k ∧ k ≤ s.length ∧ k ≤ n ∧ m = s.length - k ∧ cutL s n = k + cutL (s.drop k) (n - k), ⟨s.length, Keeps.refl w, 0, rfl, by omega, by omega, rfl, by simp⟩, ?_⟩
  rintro m i w1 ⟨hk1, k, rfl, hkl, hkn, rfl, hcut⟩
  refine ⟨fun hlt => ?_, fun hge => ?_⟩
  · have hlt : k < s.length := by have := of_decide_eq_true hlt; omega
    have hne : s.drop k ≠ [] := by
      intro e; have := congrArg List.length e; rw [List.length_drop] at this; simp at this; omega
    have hr := runeF_le (s.drop k)
    rw [List.length_drop] at hr
    have hc := cutL_cons (s.drop k) (n - k) hne
    rw [List.drop_drop] at hc
    refine ⟨⟨by omega, by omega⟩, ?_⟩
    rw [Int.toNat_natCast]
    refine (ret48 (s.drop k) w1).go fun w2 hk2 => ⟨_, _, rfl, fun h0 => ?_, fun h0 => ⟨((k + (runeF (s.drop k)).1 : Nat) : Int), by rw [i64w (by omega) (by omega)]; omega, fun hgt => ?_, fun hle => ?_⟩⟩
    · have h0 : (runeF (s.drop k)).1 = 0 := by have := of_decide_eq_true h0; omega
      rw [if_pos (.inl h0)] at hc
      exact ⟨⟨by omega, by omega⟩, by rw [hcut, hc]; rfl, hk1.trans hk2⟩
    · have hgt := of_decide_eq_true hgt
      rw [if_pos (.inr (by omega))] at hc
      exact ⟨⟨by omega, by omega⟩, by rw [hcut, hc]; rfl, hk1.trans hk2⟩
    · have h0 := of_decide_eq_false h0
      have hle := of_decide_eq_false hle
      rw [if_neg (by omega)] at hc
      refine ⟨((k + (runeF (s.drop k)).1 : Nat) : Int), by rw [i64w (by omega) (by omega)]; omega, s.length - (k + (runeF (s.drop k)).1), by omega, hk1.trans hk2, k + (runeF (s.drop k)).1, rfl, by omega, by omega, rfl, ?_⟩
      rw [hcut, hc, Nat.sub_sub]; omega
  · have hge := of_decide_eq_false hge
    have : s.drop k = [] := List.drop_eq_nil_of_le (by omega)
    rw [this, cutL_nil] at hcut
    exact ⟨⟨by omega, by omega⟩, by rw [hcut]; rfl, hk1⟩
def startB (b : UInt8) : Bool := !(b.toNat / 64 == 2)
theorem and192 : ∀ b : Nat, b < 256 → (!decide (bits .and .u8 (b : Int) 192 = 128)) = !(b / 64 == 2) := by decide +kernel
theorem ret168 (b : UInt8) (w : World) : Ret 168 [.int .u8 (b.toNat : Int)] w (.bool (startB b)) := by
  refine Ret.of (c168 _ w _ ?_)
  unfold VC168
  refine ⟨_, rfl, ?_, Keeps.refl w⟩
  rw [and192 b.toNat b.toNat_lt]; rfl
theorem rune_shape (s : List UInt8) (hs : s ≠ []) (hu : utf8F s = true) :
    1 ≤ (runeF s).1 ∧ (runeF s).1 ≤ s.length ∧ utf8F (s.drop (runeF s).1) = true ∧ startB (s.getD 0 0) = true ∧ ∀ j, 1 ≤ j → j < (runeF s).1 → startB (s.getD j 0) = false := by
  have hc := utf8F_cons s hs
  rw [hu] at hc
  have hc := hc.symm
  simp only [Bool.and_eq_true, Bool.not_eq_true', decide_eq_false_iff_not] at hc
  obtain ⟨h0, h1⟩ := hc
  have hst : (stepF s).1 = (runeF s).1 := by unfold stepF; rw [if_neg h0]
  rw [hst] at h1
  have hle := runeF_le s
  refine ⟨by omega, hle, h1, ?_⟩
  obtain ⟨a, r, rfl⟩ : ∃ a r, s = a :: r := by cases s with | nil => exact absurd rfl hs | cons a r => exact ⟨_, _, rfl⟩
  by_cases ha : a.toNat < 128
  · have e : runeF (a :: r) = (1, a.toNat) := by rw [runeF, if_pos ha]
    rw [e]
    refine ⟨?_, fun j h1 h2 => by simp only at h2; omega⟩
    simp only [List.getD_cons_zero, startB, Bool.not_eq_true', beq_eq_false_iff_ne, ne_eq]; omega
  · rw [runeF, if_neg ha] at h0 ⊢
    have hl : (lead a.toNat).1 = 0 ∨ 192 ≤ a.toNat := by
      unfold lead
      repeat' split
      all_goals simp <;> omega
    generalize (lead a.toNat).1 = n at *
    unfold tailF at h0 ⊢
    split at h0
    · exact absurd rfl h0
    · rename_i hn
      rw [if_neg hn]
      split at h0
      · rename_i hall
        rw [if_pos hall]
        split at h0
        · rename_i hok
          rw [if_pos hok]
          refine ⟨?_, fun j h1 h2 => ?_⟩
          · have hat := a.toNat_lt
            simp only [List.getD_cons_zero, startB, Bool.not_eq_true', beq_eq_false_iff_ne, ne_eq]; omega
          · simp only at h2
            have hj : j < (a :: r).length := by omega
            have hm : (a :: r)[j]'hj ∈ ((a :: r).take n).drop 1 := by
              have e : (((a :: r).take n).drop 1)[j - 1]? = some ((a :: r)[j]'hj) := by
                rw [List.getElem?_drop, show 1 + (j - 1) = j by omega, List.getElem?_take, if_pos h2, List.getElem?_eq_getElem hj]
              exact List.mem_of_getElem? e
            have := List.all_eq_true.1 hall _ hm
            have e2 : (a :: r).getD j 0 = (a :: r)[j]'hj := by simp [List.getD, List.getElem?_eq_getElem hj]
            rw [e2]
            unfold startB
            rw [this]; rfl
        · exact absurd rfl h0
      · exact absurd rfl h0
def backB (s : List UInt8) : Nat → Nat
  | 0 => 0
  | i + 1 => if startB (s.getD (i + 1) 0) then i + 1 else backB s i
theorem backB_zero (s : List UInt8) : ∀ (w k : Nat), w < k → (∀ j, 1 ≤ j → j < k → startB (s.getD j 0) = false) → backB s w = 0
  | 0, _, _, _ => rfl
  | w + 1, k, h, hk => by
    rw [backB, hk (w + 1) (by omega) h, if_neg (by decide), backB_zero s w k (by omega) hk]
theorem backB_shift (s : List UInt8) (k : Nat) (hk : 1 ≤ k) (h0 : startB ((s.drop k).getD 0 0) = true) : ∀ i, backB s (k + i) = k + backB (s.drop k) i
  | 0 => by
    obtain ⟨m, rfl⟩ : ∃ m, k = m + 1 := ⟨k - 1, by omega⟩
    have e : s.getD (m + 1) 0 = (s.drop (m + 1)).getD 0 0 := by simp [List.getD, List.getElem?_drop]
    have e2 : backB s (m + 1) = if startB (s.getD (m + 1) 0) then m + 1 else backB s m := rfl
    show backB s (m + 1) = _
    rw [e2, e, h0]; rfl
  | i + 1 => by
    have e : s.getD (k + i + 1) 0 = (s.drop k).getD (i + 1) 0 := by simp [List.getD, List.getElem?_drop, Nat.add_assoc]
    rw [← Nat.add_assoc, backB, e, backB]
    split
    · omega
    · exact backB_shift s k hk h0 i
theorem back_cut : ∀ (m : Nat) (s : List UInt8) (w : Nat), s.length ≤ m → utf8F s = true → w < s.length → backB s w = cutL s w
  | 0, s, w, hm, _, hw => by omega
  | m + 1, s, w, hm, hu, hw => by
    have hs : s ≠ [] := by intro e; rw [e] at hw; simp at hw
    obtain ⟨h1, h2, h3, h4, h5⟩ := rune_shape s hs hu
    rw [cutL_cons s w hs]
    by_cases hwk : w < (runeF s).1
    · rw [if_pos (.inr hwk), backB_zero s w _ hwk h5]
    · rw [if_neg (by omega)]
      have hd : (s.drop (runeF s).1).length = s.length - (runeF s).1 := List.length_drop
      have hne : s.drop (runeF s).1 ≠ [] := by intro e; rw [e] at hd; simp at hd; omega
      have hst := (rune_shape _ hne h3).2.2.2.1
      have := backB_shift s (runeF s).1 h1 hst (w - (runeF s).1)
      rw [show (runeF s).1 + (w - (runeF s).1) = w by omega] at this
      rw [this, back_cut m (s.drop (runeF s).1) _ (by omega) h3 (by omega)]
theorem cut_full : ∀ (m : Nat) (s : List UInt8) (n : Nat), s.length ≤ m → utf8F s = true → s.length ≤ n → cutL s n = s.length
  | 0, s, n, hm, _, _ => by
    have : s = [] := List.eq_nil_of_length_eq_zero (by omega)
    subst this; rfl
  | m + 1, s, n, hm, hu, hn => by
    by_cases hs : s = []
    · subst hs; rfl
    · obtain ⟨h1, h2, h3, _⟩ := rune_shape s hs hu
      have hd : (s.drop (runeF s).1).length = s.length - (runeF s).1 := List.length_drop
      rw [cutL_cons s n hs, if_neg (by omega), cut_full m _ _ (by omega) h3 (by omega)]
      omega
theorem getD_of {s : List UInt8} {i : Nat} (h : i < s.length) : s[i]? = some (s.getD i 0) := by
  simp [List.getD, List.getElem?_eq_getElem h]
theorem ret108 (s : List UInt8) (n : Nat) (hu : utf8F s = true) (hs : s.length ≤ 1000000000) (hn : n ≤ 1000000000) (w : World) : Ret 108 [.string (mkS s), .int .i64 (n : Int)] w (.string (mkS (s.take (cutL s n)))) := by
  refine Ret.of (c108 s (n : Int) w _ ?_)
  unfold VC108
  refine ⟨fun h => ?_, fun h => ⟨fun hl => ?_, fun hl => ?_⟩⟩
  · have h : n = 0 := by have := of_decide_eq_true h; omega
    have := (cutL_le _ s n (Nat.le_refl _)).1
    rw [show cutL s n = 0 by omega]
    exact ⟨rfl, Keeps.refl w⟩
  · have hl := of_decide_eq_true hl
    rw [cut_full _ s n (Nat.le_refl _) hu (by omega), List.take_length]
    exact ⟨rfl, Keeps.refl w⟩
  · have h := of_decide_eq_false h
    have hl := of_decide_eq_false hl
    have hlt : n < s.length := by omega
    have hcut := back_cut _ s n (Nat.le_refl _) hu hlt
    refine ⟨_, ⟨by omega, getD_of hlt⟩, (ret168 _ w).go fun w1 hk1 => ⟨_, rfl, fun hst => ?_, fun hst => ?_⟩⟩
    · obtain ⟨m, rfl⟩ : ∃ m, n = m + 1 := ⟨n - 1, by omega⟩
      have : (((m + 1 : Nat) : Int)).toNat = m + 1 := rfl
      rw [this] at hst ⊢
      rw [backB, hst, if_pos rfl] at hcut
      rw [← hcut]
      exact ⟨⟨by omega, by omega⟩, rfl, hk1⟩
    · refine ⟨fun mm i w2 => Keeps w w2 ∧ ∃ k : Nat, i = k ∧ k ≤ n ∧ mm = k ∧ backB s n = backB s k, ⟨n, hk1, n, rfl, Nat.le_refl _, rfl, rfl⟩, ?_⟩
      rintro mm i w2 ⟨hk2, k, rfl, hkn, hmm, hb⟩
      refine ⟨fun h0 => ?_, fun h0 => ?_⟩
      · have h0 := of_decide_eq_true h0
        obtain ⟨j, rfl⟩ : ∃ j, k = j + 1 := ⟨k - 1, by omega⟩
        have ej : (((j + 1 : Nat) : Int)).toNat = j + 1 := rfl
        refine ⟨_, ⟨by omega, by rw [ej]; exact getD_of (by omega)⟩, (ret168 _ w2).go fun w3 hk3 => ⟨_, rfl, fun hn' => ?_, fun hn' => ?_⟩⟩
        · have hn' : startB (s.getD (j + 1) 0) = false := by
            cases hq : startB (s.getD (j + 1) 0) with
            | false => rfl
            | true => rw [hq] at hn'; cases hn'
          refine ⟨(j : Int), by rw [i64w (by omega) (by omega)]; omega, j, by omega, hk2.trans hk3, j, rfl, by omega, rfl, ?_⟩
          rw [hb, backB, hn', if_neg (by decide)]
        · have hn' : startB (s.getD (j + 1) 0) = true := by
            cases hq : startB (s.getD (j + 1) 0) with
            | true => rfl
            | false => rw [hq] at hn'; cases hn'
          rw [backB, hn', if_pos rfl] at hb
          rw [ej, ← hcut, hb]
          exact ⟨⟨by omega, by omega⟩, rfl, hk2.trans hk3⟩
      · have h0 : k = 0 := by have := of_decide_eq_false h0; omega
        subst h0
        rw [← hcut, hb]
        exact ⟨⟨by omega, by omega⟩, rfl, hk2⟩
theorem tailF_pre (n c least : Nat) (s t : List UInt8) (h : (tailF n c least s).1 ≠ 0) : tailF n c least (s ++ t) = tailF n c least s := by
  unfold tailF at h ⊢
  split at h
  · exact absurd rfl h
  · rename_i hn
    rw [if_neg hn, if_neg (by simp only [List.length_append]; omega)]
    rw [List.take_append_of_le_length (by omega)]
theorem runeF_pre (s t : List UInt8) (h : (runeF s).1 ≠ 0) : runeF (s ++ t) = runeF s := by
  cases s with
  | nil => exact absurd rfl h
  | cons a r =>
    rw [List.cons_append]
    rw [runeF] at h ⊢
    rw [runeF]
    split
    · rfl
    · rename_i ha
      rw [if_neg ha] at h
      exact tailF_pre _ _ _ (a :: r) t h
theorem utf8_app : ∀ (m : Nat) (a b : List UInt8), a.length ≤ m → utf8F a = true → utf8F (a ++ b) = utf8F b
  | 0, a, b, hm, _ => by
    have : a = [] := List.eq_nil_of_length_eq_zero (by omega)
    subst this; rfl
  | m + 1, a, b, hm, hu => by
    by_cases ha : a = []
    · subst ha; rfl
    · obtain ⟨h1, h2, h3, _, _⟩ := rune_shape a ha hu
      have hp := runeF_pre a b (by omega)
      have hab : a ++ b ≠ [] := by simp [ha]
      rw [utf8F_cons _ hab]
      have hst : (stepF (a ++ b)).1 = (runeF a).1 := by unfold stepF; rw [hp, if_neg (by omega)]
      rw [hst, hp, List.drop_append_of_le_length h2, utf8_app m _ b (by rw [List.length_drop]; omega) h3]
      have : decide ((runeF a).1 = 0) = false := decide_eq_false (by omega)
      rw [this]; rfl
theorem utf8F_append {a b : List UInt8} (ha : utf8F a = true) (hb : utf8F b = true) : utf8F (a ++ b) = true := by rw [utf8_app a.length a b (Nat.le_refl _) ha, hb]
theorem asc_utf8 : ∀ (s : List UInt8), asc s → utf8F s = true
  | [], _ => rfl
  | a :: r, h => by
    have ha : a.toNat < 128 := h a (by simp)
    have e : runeF (a :: r) = (1, a.toNat) := by rw [runeF, if_pos ha]
    rw [utf8F_cons _ (by simp), e]
    have hst : (stepF (a :: r)).1 = 1 := by unfold stepF; rw [e, if_neg Nat.one_ne_zero]
    rw [hst, List.drop_one, List.tail_cons, asc_utf8 r fun x hx => h x (List.mem_cons_of_mem _ hx)]
    rfl
theorem cutL_app : ∀ (m : Nat) (a b : List UInt8) (n : Nat), a.length ≤ m → utf8F a = true → cutL (a ++ b) n = if n < a.length then cutL a n else a.length + cutL b (n - a.length)
  | 0, a, b, n, hm, _ => by
    have : a = [] := List.eq_nil_of_length_eq_zero (by omega)
    subst this; simp
  | m + 1, a, b, n, hm, hu => by
    by_cases ha : a = []
    · subst ha; simp
    · obtain ⟨h1, h2, h3, _, _⟩ := rune_shape a ha hu
      have hp := runeF_pre a b (by omega)
      have hab : a ++ b ≠ [] := by simp [ha]
      rw [cutL_cons _ _ hab, hp, cutL_cons a n ha]
      by_cases hn : n < (runeF a).1
      · have hlt : n < a.length := by omega
        rw [if_pos hlt, if_pos (show (runeF a).1 = 0 ∨ n < (runeF a).1 from Or.inr hn), if_pos (show (runeF a).1 = 0 ∨ n < (runeF a).1 from Or.inr hn)]
      · rw [if_neg (show ¬ ((runeF a).1 = 0 ∨ n < (runeF a).1) by omega), List.drop_append_of_le_length h2, cutL_app m _ b _ (by rw [List.length_drop]; omega) h3, List.length_drop]
        by_cases hc : n < a.length
        · rw [if_pos hc, if_pos (by omega), if_neg (show ¬ ((runeF a).1 = 0 ∨ n < (runeF a).1) by omega)]
        · rw [if_neg hc, if_neg (by omega), show n - (runeF a).1 - (a.length - (runeF a).1) = n - a.length by omega]
          omega
def cutT (s : List UInt8) (n : Nat) : List UInt8 := s.take (cutL s n)
theorem cutT_len (s : List UInt8) (n : Nat) : (cutT s n).length ≤ n := by
  have := cutL_le s.length s n (Nat.le_refl _)
  unfold cutT
  rw [List.length_take]; omega
theorem cutT_full {s : List UInt8} {n : Nat} (hu : utf8F s = true) (h : s.length ≤ n) : cutT s n = s := by
  unfold cutT
  rw [cut_full s.length s n (Nat.le_refl _) hu h, List.take_length]
theorem cutT_left {a : List UInt8} (b : List UInt8) {n : Nat} (hu : utf8F a = true) (h : n ≤ a.length) : cutT (a ++ b) n = cutT a n := by
  have e := cutL_app a.length a b n (Nat.le_refl _) hu
  unfold cutT
  rcases Nat.lt_or_ge n a.length with hn | hn
  · rw [e, if_pos hn, List.take_append_of_le_length (cutL_le a.length a n (Nat.le_refl _)).2]
  · have hz : n - a.length = 0 := by omega
    have h0 := (cutL_le b.length b 0 (Nat.le_refl _)).1
    have hb : cutL b 0 = 0 := by omega
    rw [e, if_neg (by omega), hz, hb, cut_full a.length a n (Nat.le_refl _) hu hn, Nat.add_zero, List.take_append_of_le_length (Nat.le_refl _)]
theorem cutT_right {a : List UInt8} (b : List UInt8) {n : Nat} (hu : utf8F a = true) (h : a.length ≤ n) : cutT (a ++ b) n = a ++ cutT b (n - a.length) := by
  unfold cutT
  rw [cutL_app a.length a b n (Nat.le_refl _) hu, if_neg (by omega), List.take_length_add_append]
def cutX (s : List UInt8) (n : Int) : List UInt8 := if n < 0 then s else cutT s n.toNat
def lessT (s : List UInt8) (n : Int) : Bool := decide (0 ≤ n) && decide (n < (s.length : Int))
theorem nT_neg {s : List UInt8} {n : Int} (h : n < 0) : cutX s n = s := if_pos h
theorem nT_pos {s : List UInt8} {n : Int} (h : 0 ≤ n) : cutX s n = cutT s n.toNat := if_neg (by omega)
theorem lessT_neg {s : List UInt8} {n : Int} (h : n < 0) : lessT s n = false := by unfold lessT; rw [decide_eq_false (by omega)]; rfl
theorem lessT_true {s : List UInt8} {n : Int} (h0 : 0 ≤ n) (h : n < s.length) : lessT s n = true := by unfold lessT; rw [decide_eq_true h0, decide_eq_true h]; rfl
theorem lessT_false {s : List UInt8} {n : Int} (h : (s.length : Int) ≤ n) : lessT s n = false := by unfold lessT; rw [decide_eq_false (by omega : ¬ n < s.length)]; simp
theorem nT_full {s : List UInt8} {n : Int} (hu : utf8F s = true) (h : (s.length : Int) ≤ n) : cutX s n = s := by rw [nT_pos (by omega), cutT_full hu (by omega)]
theorem nT_len (s : List UInt8) (n : Int) : (cutX s n).length ≤ s.length := by
  unfold cutX
  split
  · exact Nat.le_refl _
  · unfold cutT; rw [List.length_take]; omega
theorem asc.cons {a : UInt8} {b : List UInt8} (ha : a.toNat < 128) (hb : asc b) : asc (a :: b) := fun x hx => by
  rcases List.mem_cons.1 hx with rfl | hx
  · exact ha
  · exact hb x hx
theorem asc_nil : asc [] := asc_dec rfl
theorem asc_getD {l : List UInt8} (h : asc l) (i : Nat) : (l.getD i 0).toNat < 128 := by
  rw [List.getD_eq_getElem?_getD]
  cases hi : l[i]? with
  | none => decide
  | some b => exact h b (List.mem_of_getElem? hi)
theorem hexD_asc (n : Nat) : (hexD n).toNat < 128 := asc_getD (asc_dec (by decide)) n
theorem hex2_asc (b : Nat) : asc (hex2 b) := (asc_nil.cons (hexD_asc _)).cons (hexD_asc _)
theorem hexAll_asc : ∀ l : List UInt8, asc (hexAll l)
  | [] => asc_nil
  | b :: l => by
    have e : hexAll (b :: l) = hex2 b.toNat ++ hexAll l := rfl
    rw [e]; exact (hex2_asc _).app (hexAll_asc l)
theorem idF_asc (l : List UInt8) : asc (idF l) := asc.cons (by decide) ((hexAll_asc l).app (asc_dec (by decide)))
theorem digs_asc : ∀ (m n : Nat), n ≤ m → asc (digs n)
  | 0, n, h => by
    have : n = 0 := by omega
    subst this; exact asc_nil
  | m + 1, n, h => by
    by_cases hn : n = 0
    · subst hn; exact asc_nil
    · rw [digs_step n hn]
      refine (digs_asc m (n / 10) (by omega)).app (asc.cons ?_ asc_nil)
      rw [UInt8.toNat_ofNat']; omega
theorem decF_asc (n : Nat) : asc (decF n) := by
  unfold decF
  split
  · exact asc_dec (by decide)
  · exact digs_asc n n (Nat.le_refl _)
theorem decNum_asc (n : Int) : asc (decNum n) := by
  unfold decNum
  split
  · exact asc.cons (by decide) (decF_asc _)
  · exact decF_asc _
theorem quad64_asc (n h : Nat) : ∀ k, asc (quad64 n h k)
  | 0 => asc_nil
  | k + 1 => by
    rw [quad64]
    refine (quad64_asc n h k).app (asc.cons ?_ asc_nil)
    split
    · decide
    · exact asc_getD (asc_dec (by decide +kernel)) _
theorem b64F_asc : ∀ (m : Nat) (l : List UInt8), l.length ≤ m → asc (b64F l)
  | 0, l, h => by
    have : l = [] := List.eq_nil_of_length_eq_zero (by omega)
    subst this; exact asc_nil
  | m + 1, l, h => by
    by_cases hl : l = []
    · subst hl; exact asc_nil
    · rw [b64F_cons l hl]
      have := List.length_pos_iff.2 hl
      exact (quad64_asc _ _ _).app (b64F_asc m _ (by rw [List.length_drop]; omega))
theorem decTextF_asc (d : Dec) (h : asc d.ds) : asc (decTextF d) := by
  have hs : asc (if d.neg then [45] else []) := by split <;> exact asc_dec (by decide)
  unfold decTextF
  simp only []
  split
  · exact asc_dec (by decide)
  · split
    · exact hs.app (asc_dec (by decide))
    · split
      · have ho : asc (if 1 < d.ds.length then d.ds.take 1 ++ ([46] ++ d.ds.drop 1) else d.ds.take 1) := by
          split
          · exact h.take.app ((asc_dec (by decide)).app h.drop)
          · exact h.take
        split
        · exact ((hs.app ho).app (asc_dec (by decide))).app (decNum_asc _)
        · exact ((hs.app ho).app (asc_dec (by decide))).app (decNum_asc _)
      · split
        · exact hs.app h
        · have hz := (asc_rep ((-d.exp).toNat + 1 - d.ds.length)).app h
          exact ((hs.app hz.take).app (asc_dec (by decide))).app hz.drop
theorem decOf_asc (hi lo : Nat) : asc (decOf hi lo).ds := by
  unfold decOf
  repeat' split
  all_goals first
    | exact asc_nil
    | exact decF_asc _
    | exact asc_dec rfl
theorem dblF_asc {F : Nat → List UInt8} (hA : ∀ n, asc (F n)) (n : Nat) : asc (dblF F n) := by
  unfold dblF
  repeat' split
  all_goals first
    | exact hA n
    | exact (hA n).app (asc_dec (by decide))
    | exact asc_dec (by decide)
theorem utf8_mid {a b c : List UInt8} (ha : asc a) (hb : utf8F b = true) (hc : asc c) : utf8F (a ++ b ++ c) = true :=
  utf8F_append (utf8F_append (asc_utf8 a ha) hb) (asc_utf8 c hc)
theorem wrapF_utf8 {a b : List UInt8} (ha : asc a) (hb : utf8F b = true) : utf8F (wrapF a b) = true := by
  unfold wrapF
  exact utf8_mid (((asc_dec (by decide)).app ha).app (asc_dec (by decide))) hb (asc_dec (by decide))
theorem utf8_one (s : List UInt8) (hs : s ≠ []) (hu : utf8F s = true) : utf8F (s.take (runeF s).1) = true := by
  obtain ⟨h1, h2, _, _, _⟩ := rune_shape s hs hu
  have hne : s.take (runeF s).1 ≠ [] := by
    intro e
    have : (s.take (runeF s).1).length = 0 := by rw [e]; rfl
    rw [List.length_take] at this; omega
  have hr : runeF (s.take (runeF s).1) = runeF s := by
    obtain ⟨a, r, rfl⟩ : ∃ a r, s = a :: r := by cases s with | nil => exact absurd rfl hs | cons a r => exact ⟨_, _, rfl⟩
    by_cases ha : a.toNat < 128
    · have e : runeF (a :: r) = (1, a.toNat) := by rw [runeF, if_pos ha]
      rw [e, List.take_succ_cons, List.take_zero, runeF, if_pos ha]
    · have e : runeF (a :: r) = tailF (lead a.toNat).1 (lead a.toNat).2.1 (lead a.toNat).2.2 (a :: r) := by rw [runeF, if_neg ha]
      have e2 : ∀ q, runeF (a :: q) = tailF (lead a.toNat).1 (lead a.toNat).2.1 (lead a.toNat).2.2 (a :: q) := fun q => by rw [runeF, if_neg ha]
      have hn : (tailF (lead a.toNat).1 (lead a.toNat).2.1 (lead a.toNat).2.2 (a :: r)).1 = (lead a.toNat).1 := by
        rw [e] at h1
        generalize (lead a.toNat).1 = n at *
        unfold tailF at h1 ⊢
        split at h1
        · simp at h1
        · rename_i hn
          rw [if_neg hn]
          split at h1
          · rename_i hall
            rw [if_pos hall]
            split at h1
            · rename_i hok
              rw [if_pos hok]
            · simp at h1
          · simp at h1
      rw [e, hn]
      rw [e, hn] at h1 h2
      obtain ⟨k, hk⟩ : ∃ k, (lead a.toNat).1 = k + 1 := ⟨(lead a.toNat).1 - 1, by omega⟩
      have et : (a :: r).take (lead a.toNat).1 = a :: r.take k := by rw [hk, List.take_succ_cons]
      rw [et, e2, ← et]
      generalize (lead a.toNat).1 = n at *
      unfold tailF
      have hlt : ((a :: r).take n).length = n := by rw [List.length_take]; omega
      rw [hlt, List.take_take, Nat.min_self]
      rw [if_neg (by omega : ¬ (n = 0 ∨ n < n)), if_neg (by omega : ¬ (n = 0 ∨ (a :: r).length < n))]
  rw [utf8F_cons _ hne, hr]
  have hst : (stepF (s.take (runeF s).1)).1 = (runeF s).1 := by unfold stepF; rw [hr, if_neg (by omega)]
  rw [hst, List.drop_eq_nil_of_le (by rw [List.length_take]; omega), decide_eq_false (by omega)]
  rfl
theorem piece_utf8 (e : Bool) (bs : List UInt8) (c : Nat) (h : utf8F bs = true) : utf8F (piece e bs c) = true := by
  unfold piece
  split
  · rename_i hc
    exact asc_utf8 _ (asc.cons (by decide) (asc.cons (by rcases hc with rfl | rfl <;> decide) asc_nil))
  · split
    · exact asc_utf8 _ (asc.cons (by decide) (asc.cons (asc_getD (asc_dec (by decide)) _) asc_nil))
    · split
      · exact asc_utf8 _ ((asc_dec (by decide)).app (hex2_asc c))
      · split
        · rename_i hc
          exact asc_utf8 _ ((asc_dec (by decide)).app (asc.cons (by rcases hc with rfl | rfl <;> decide) asc_nil))
        · exact h
theorem escF_utf8 (e : Bool) : ∀ (m : Nat) (s : List UInt8), s.length ≤ m → utf8F s = true → utf8F (escF e s) = true
  | 0, s, hm, _ => by
    have : s = [] := List.eq_nil_of_length_eq_zero (by omega)
    subst this; rfl
  | m + 1, s, hm, hu => by
    by_cases hs : s = []
    · subst hs; rfl
    · obtain ⟨h1, h2, h3, _, _⟩ := rune_shape s hs hu
      rw [escF_cons e s hs]
      have hst : (stepF s).1 = (runeF s).1 := by unfold stepF; rw [if_neg (by omega)]
      rw [hst]
      exact utf8F_append (piece_utf8 e _ _ (utf8_one s hs hu)) (escF_utf8 e m _ (by rw [List.length_drop]; omega) h3)
theorem strF_utf8 (e : Bool) {s : List UInt8} (hu : utf8F s = true) : utf8F (strF e s) = true := by
  have : strF e s = [34] ++ escF e s ++ [34] := rfl
  rw [this]
  exact utf8_mid (asc_dec (by decide)) (escF_utf8 e s.length s (Nat.le_refl _) hu) (asc_dec (by decide))
theorem ite_utf8 {c : Prop} [Decidable c] {a b : List UInt8} (ha : utf8F a = true) (hb : utf8F b = true) : utf8F (if c then a else b) = true := by
  split
  · exact ha
  · exact hb
theorem ownT_utf8 {F : Nat → List UInt8} (hA : ∀ n, asc (F n)) (ks : Bool → List UInt8) (x : Val) (hf : OwnFits x) (h3 : x.kind ≠ 3) (h4 : x.kind ≠ 4) (h15 : x.kind ≠ 15) : utf8F (ownT F true true ks x) = true := by
  have ht : utf8F x.text = true := textF_utf8 hf.1
  have hm : utf8F x.more = true := textF_utf8 hf.2.1
  have A : ∀ {a : List UInt8}, asc a → utf8F a = true := fun h => asc_utf8 _ h
  have D : ∀ {s : List UInt8}, (s.all fun b => decide (b.toNat < 128)) = true → asc s := fun h => asc_dec h
  unfold ownT
  rw [if_neg h3, if_neg h4, if_neg h15]
  simp only [if_true]
  refine ite_utf8 ?_ (ite_utf8 ?_ (ite_utf8 ?_ (ite_utf8 ?_ (ite_utf8 ?_ (ite_utf8 ?_ (ite_utf8 ?_ (ite_utf8 ?_ (ite_utf8 ?_ (ite_utf8 ?_ (ite_utf8 ?_ (ite_utf8 ?_ (ite_utf8 ?_ (ite_utf8 ?_ (ite_utf8 ?_ (ite_utf8 ?_ (ite_utf8 ?_ ?_))))))))))))))))
  · unfold num1F
    simp only [Bool.true_or, if_true]
    exact wrapF_utf8 (D (by decide)) (A (((D (by decide)).app (dblF_asc hA _)).app (D (by decide))))
  · exact strF_utf8 true ht
  · exact wrapF_utf8 (D (by decide)) (A (((((D (by decide)).app (b64F_asc _ _ (Nat.le_refl _))).app (D (by decide))).app (hex2_asc _)).app (D (by decide))))
  · exact wrapF_utf8 (D (by decide)) (A (D (by decide)))
  · exact wrapF_utf8 (D (by decide)) (A (idF_asc _))
  · exact ite_utf8 (A (D (by decide))) (A (D (by decide)))
  · exact wrapF_utf8 (D (by decide)) (A (((D (by decide)).app (decNum_asc _)).app (D (by decide))))
  · exact A (D (by decide))
  · exact wrapF_utf8 (D (by decide)) (utf8F_append (utf8F_append (utf8_mid (D (by decide)) (strF_utf8 true ht) (D (by decide))) (strF_utf8 true hm)) (A (D (by decide))))
  · exact wrapF_utf8 (D (by decide)) (utf8F_append (utf8F_append (utf8_mid (D (by decide)) (strF_utf8 true ht) (D (by decide))) (A (idF_asc _))) (A (D (by decide))))
  · exact wrapF_utf8 (D (by decide)) (strF_utf8 true ht)
  · exact wrapF_utf8 (D (by decide)) (strF_utf8 true ht)
  · exact wrapF_utf8 (D (by decide)) (A (((D (by decide)).app (decNum_asc _)).app (D (by decide))))
  · exact wrapF_utf8 (D (by decide)) (A (((((D (by decide)).app (decF_asc _)).app (D (by decide))).app (decF_asc _)).app (D (by decide))))
  · exact wrapF_utf8 (D (by decide)) (A (((D (by decide)).app (decNum_asc _)).app (D (by decide))))
  · exact wrapF_utf8 (D (by decide)) (A (((D (by decide)).app (decTextF_asc _ (decOf_asc _ _))).app (D (by decide))))
  · exact wrapF_utf8 (D (by decide)) (A (D (by decide)))
  · exact wrapF_utf8 (D (by decide)) (A (D (by decide)))
theorem joinK_utf8 : ∀ (ps : List (List UInt8)), (∀ p ∈ ps, utf8F p = true) → utf8F (joinK ps) = true
  | [], _ => rfl
  | p :: r, h => by
    unfold joinK
    refine utf8F_append (h p (by simp)) ?_
    have : ∀ q : List (List UInt8), (∀ p ∈ q, utf8F p = true) → utf8F (q.flatMap fun q => 44 :: q) = true := by
      intro q
      induction q with
      | nil => intro _; rfl
      | cons a q ih =>
        intro hq
        rw [List.flatMap_cons]
        exact utf8F_append (utf8F_append (a := [44]) (asc_utf8 _ (asc_dec (by decide))) (hq a (by simp))) (ih fun p hp => hq p (by simp [hp]))
    exact this r fun p hp => h p (by simp [hp])
theorem ofInt32 (a : Nat) (h : a < 4294967296) : (BitVec.ofInt IntKind.i32.bits (IntKind.i32.wrap (a : Int))).toNat = a := by
  rw [BitVec.toNat_ofInt, IntKind.wrap_i32]
  have e : (((2 ^ IntKind.i32.bits : Nat)) : Int) = 4294967296 := by decide
  rw [e]; omega
theorem or_i32 (a b : Nat) (ha : a < 4294967296) (hb : b < 4294967296) : bits .or .i32 (IntKind.i32.wrap (a : Int)) (IntKind.i32.wrap (b : Int)) = IntKind.i32.wrap (((a ||| b : Nat)) : Int) := by
  unfold bits
  simp only [BitVec.toNat_or, ofInt32 a ha, ofInt32 b hb]
theorem or_add (a b j : Nat) (ha : a < 2 ^ j) (hb : b % 2 ^ j = 0) : a ||| b = a + b := by
  have hq : b = 2 ^ j * (b / 2 ^ j) := by
    have := Nat.div_add_mod b (2 ^ j)
    omega
  rw [hq, Nat.or_comm, ← Nat.two_pow_add_eq_or_of_lt ha]
  omega
def num4 (a b c d : UInt8) : Nat := a.toNat + b.toNat * 256 + c.toNat * 65536 + d.toNat * 16777216
theorem num4_le (n : Int) (m : Nat) (h : (m : Int) = n % 4294967296) : num4 (b8 n) (b8 (n / 2 ^ 8)) (b8 (n / 2 ^ 16)) (b8 (n / 2 ^ 24)) = m := by
  have h1 := b8_toNat n
  have h2 := b8_toNat (n / 2 ^ 8)
  have h3 := b8_toNat (n / 2 ^ 16)
  have h4 := b8_toNat (n / 2 ^ 24)
  unfold num4
  omega
theorem reads_drop {w : World} {p : Option Addr} {l : List UInt8} {c : Nat} (h : ReadsB w p l) (hc : l.length ≤ c) (k : Nat) : ReadsB w (slAddr p c k 1) (l.drop k) := by
  intro j b hj
  rw [List.getElem?_drop] at hj
  obtain ⟨a, ha, hcell⟩ := h (k + j) b hj
  have hlt := (List.getElem?_eq_some_iff.1 hj).1
  unfold slAddr
  rw [if_neg (by omega), ha]
  refine ⟨a.add (k * 1), rfl, ?_⟩
  rw [Nat.mul_one]
  have e : (a.add k).add j = a.add (k + j) := by
    unfold Addr.add
    by_cases hk : k = 0
    · subst hk; simp
    · by_cases hj0 : j = 0
      · subst hj0; simp [hk]
      · simp [hk, hj0, Nat.add_assoc]
  rw [e]; exact hcell
theorem ret133 (p : Option Addr) (n c : Nat) (l : List UInt8) (b0 b1 b2 b3 : UInt8) (r : List UInt8) (w : World) (hl : l = b0 :: b1 :: b2 :: b3 :: r) (hr : ReadsB w p l) (hn : n = l.length) (hc : n ≤ c) :
    Ret 133 [.slice p n c] w (.tuple ⟨[.int .i32 (IntKind.i32.wrap (num4 b0 b1 b2 b3 : Nat)), .slice (slAddr p c 4 1) (n - 4) (c - 4), .bool true]⟩) := by
  have hn4 : 4 ≤ n := by rw [hn, hl]; simp
  have q0 := b0.toNat_lt
  have q1 := b1.toNat_lt
  have q2 := b2.toNat_lt
  have q3 := b3.toNat_lt
  obtain ⟨a, ha⟩ : ∃ a, p = some a := by obtain ⟨a, ha, _⟩ := hr 0 b0 (by rw [hl]; rfl); exact ⟨a, ha⟩
  subst ha
  have c0 : w.cell? a = some (.int .u8 (b0.toNat : Int)) := by
    have := hr.at (j := 0) (b := b0) (by rw [hl]; rfl)
    have e : a.add 0 = a := by simp [Addr.add]
    rwa [e] at this
  have c1 := hr.at (j := 1) (b := b1) (by rw [hl]; rfl)
  have c2 := hr.at (j := 2) (b := b2) (by rw [hl]; rfl)
  have c3 := hr.at (j := 3) (b := b3) (by rw [hl]; rfl)
  refine Ret.of (c133 _ _ _ w _ ?_)
  unfold VC133
  refine ⟨fun h => by have := of_decide_eq_true h; omega, fun _ => ⟨⟨by omega, by omega⟩, a, rfl, _, c3, ⟨by omega, by omega⟩, a, rfl, _, c0, _, rfl, ⟨by omega, by omega⟩, a, rfl, _, c1, _, rfl, by decide, IntKind.i32.wrap ((b1.toNat * 256 : Nat) : Int), ?_, _, rfl,
    ⟨by omega, by omega⟩, a, rfl, _, c2, _, rfl, by decide, IntKind.i32.wrap ((b2.toNat * 65536 : Nat) : Int), ?_, _, rfl, ⟨by omega, by omega⟩, a, rfl, _, c3, _, rfl, by decide, IntKind.i32.wrap ((b3.toNat * 16777216 : Nat) : Int), ?_, IntKind.i32.wrap (num4 b0 b1 b2 b3 : Nat), ?_, ⟨by omega, by omega, by omega⟩, rfl, ?_⟩⟩
  · rw [i32w (n := (b1.toNat : Int)) (by omega) (by omega)]; congr 1
  · rw [i32w (n := (b2.toNat : Int)) (by omega) (by omega)]; congr 1
  · rw [i32w (n := (b3.toNat : Int)) (by omega) (by omega)]; congr 1
  · rw [or_i32 _ _ (by omega) (by omega)]
    have e1 : b0.toNat ||| b1.toNat * 256 = b0.toNat + b1.toNat * 256 := or_add _ _ 8 (by omega) (by omega)
    rw [e1, or_i32 _ _ (by omega) (by omega)]
    have e2 : (b0.toNat + b1.toNat * 256) ||| b2.toNat * 65536 = b0.toNat + b1.toNat * 256 + b2.toNat * 65536 := or_add _ _ 16 (by omega) (by omega)
    rw [e2, or_i32 _ _ (by omega) (by omega)]
    have e3 : (b0.toNat + b1.toNat * 256 + b2.toNat * 65536) ||| b3.toNat * 16777216 = b0.toNat + b1.toNat * 256 + b2.toNat * 65536 + b3.toNat * 16777216 := or_add _ _ 24 (by omega) (by omega)
    rw [e3]; rfl
  · exact ((Keeps.refl w).drew).trans (Keeps.refl w.drew).drew
theorem ret133n (p : Option Addr) (n c : Nat) (N : Int) (r : List UInt8) (w : World) (h0 : -2147483648 ≤ N) (h9 : N ≤ 2147483647) (hr : ReadsB w p (le32 N ++ r)) (hn : n = (le32 N ++ r).length) (hc : n ≤ c) :
    Ret 133 [.slice p n c] w (.tuple ⟨[.int .i32 N, .slice (slAddr p c 4 1) (n - 4) (c - 4), .bool true]⟩) := by
  have := ret133 p n c (le32 N ++ r) _ _ _ _ r w rfl hr hn hc
  rw [num4_le N (N % 4294967296).toNat (by omega)] at this
  have e : IntKind.i32.wrap (((N % 4294967296).toNat : Nat) : Int) = N := by
    rw [IntKind.wrap_i32]; omega
  rwa [e] at this
theorem ret73 (p : Option Addr) (n c : Nat) (N : Int) (r : List UInt8) (w : World) (h0 : 0 ≤ N) (h9 : N ≤ 2147483647) (hr : ReadsB w p (le32 N ++ r)) (hn : n = (le32 N ++ r).length) (hc : n ≤ c) :
    Ret 73 [.slice p n c] w (.tuple ⟨[.int .i32 N, .slice (slAddr p c 4 1) (n - 4) (c - 4), .bool true]⟩) := by
  refine Ret.of (c73 _ _ _ w _ ?_)
  unfold VC73
  refine (ret133n p n c N r w (by omega) h9 hr hn hc).go fun w1 hk1 => ⟨_, _, _, _, _, rfl, fun h => ?_, fun _ => ⟨rfl, hk1⟩⟩
  have := of_decide_eq_true h; omega
theorem indexByte_at : ∀ (u v : List UInt8), (0 : UInt8) ∉ u → Lib.indexByte (u ++ 0 :: v) 0 = (u.length : Int)
  | [], v, _ => by simp [Lib.indexByte]
  | b :: u, v, h => by
    have hb : (b == 0) = false := by
      cases hq : b == 0 with
      | false => rfl
      | true => exact absurd (by have := beq_iff_eq.1 hq; rw [this]; simp) h
    have ih := indexByte_at u v fun hm => h (List.mem_cons_of_mem _ hm)
    rw [List.cons_append, Lib.indexByte, hb, ih]
    have : (((u.length : Nat) : Int) == -1) = false := by
      cases hq : ((u.length : Nat) : Int) == -1 with
      | false => rfl
      | true => have := beq_iff_eq.1 hq; omega
    rw [this]
    simp
def zs (l : List UInt8) : List Int := l.map fun b => (b.toNat : Int)
theorem zs_get (L : List UInt8) (i : Nat) (h : i < L.length) : (zs L).getD i 0 = (L[i].toNat : Int) := by
  unfold zs
  simp [List.getD, List.getElem?_eq_getElem h]
theorem bytesOf_zs (l : List UInt8) : Lib.bytesOf (zs l) = l := by
  unfold Lib.bytesOf zs
  rw [List.map_map]
  conv => rhs; rw [← List.map_id l]
  refine List.map_congr_left fun b _ => ?_
  simp
theorem cell_spot' {w : World} {a : Addr} {v : Value} (h : w.cell? a = some v) : a = ⟨a.block, a.off, none⟩ := by
  obtain ⟨b, o, sp⟩ := a
  cases sp with
  | none => rfl
  | some x =>
    unfold World.cell? at h
    split at h <;> simp at h
theorem ret136 (p : Option Addr) (n c : Nat) (u v : List UInt8) (w : World) (hu : (0 : UInt8) ∉ u) (hr : ReadsB w p (u ++ 0 :: v)) (hn : n = (u ++ 0 :: v).length) : Ret 136 [.slice p n c, .int .u8 0] w (.int .i64 (u.length : Int)) := by
  refine Ret.of (c136 _ _ _ _ w _ ?_)
  unfold VC136
  have hl : 0 < (u ++ 0 :: v).length := by simp only [List.length_append, List.length_cons]; omega
  obtain ⟨b0, hb0⟩ : ∃ b0, (u ++ 0 :: v)[0]? = some b0 := ⟨_, List.getElem?_eq_getElem hl⟩
  obtain ⟨a, ha, hc0⟩ := hr 0 b0 hb0
  subst ha
  have e0 : a.add 0 = a := by simp [Addr.add]
  rw [e0] at hc0
  have hspot := cell_spot' hc0
  have hread : ∀ i, i < n → w.cell? ⟨a.block, a.off + i, none⟩ = some (.int .u8 ((zs (u ++ 0 :: v)).getD i 0)) := by
    intro i hi
    rw [hn] at hi
    have := hr.at (j := i) (List.getElem?_eq_getElem hi)
    rw [hspot, add_at] at this
    rw [this, zs_get _ i hi]
  have hx : (zs (u ++ 0 :: v)).length = n := by rw [hn]; simp [zs]
  have hrun := Lib.run_indexByteSlice (P := prog) w a.block a.off n c (zs (u ++ 0 :: v)) hx hread 0
  rw [bytesOf_zs] at hrun
  have hz : ((0 : Int).toNat.toUInt8) = 0 := rfl
  rw [hz, indexByte_at u v hu] at hrun
  refine ⟨(u.length : Int), w, ?_, rfl, Keeps.refl w⟩
  have hcall := run_callFunc_extern (P := prog) func199 (by kernel_rfl) (by kernel_rfl) (by kernel_rfl) (e := Extern.BytealgIndexByte.indexByte) (by kernel_rfl) #[.slice (some ⟨a.block, a.off, none⟩) n c, .int .u8 0] w
  rw [hrun] at hcall
  rw [hspot]
  exact hcall
end Go.Proofs.Tryz
