/- Parts of a proof, joined: W8, W9, B24, B26. -/
import Derived.Test.YtfofafjemgfobaaGreatDoorX22
import Derived.Lib.BufferWrite
set_option linter.unusedVariables false
namespace Go.Proofs.Tryz
open Go.Vc Go.RowKit Go.Sort
theorem copy_str {w : World} {g t : Nat} {cs : List Value} (hv : Var w g t cs) {o n c : Nat} {s : List UInt8} (s' : List UInt8) (hs : s = s') (hn : s'.length ≤ n) (hfit : o + s'.length ≤ cs.length) {fl : List Bool} (K : World → Prop)
    (hK : ∀ w', Var w' g t (cs.take o ++ bc s' ++ cs.drop (o + s'.length)) → w.grownBy w' (some g) → K w') :
    ∃ x : Int, ∃ w', BuiltinOk prog .copy #[23, 9] 3 fl [.slice (some ⟨g, o, none⟩) n c, .string (mkS s)] w (.int .i64 x) w' ∧ K w' := by
  subst hs
  obtain ⟨i, hi, hsz, hby, hz⟩ := i5
  have hr := Lib.run_copy_row_string (P := prog) w 23 9 3 5 g o n c (mkS s) ⟨cs⟩ t u23 (by rw [hi]; simp [hsz]) hv hn hfit
  refine ⟨(s.length : Int), w.setRow g ⟨cs.take o ++ bc s ++ cs.drop (o + s.length)⟩, ?_, hK _ ?_ ?_⟩
  · unfold BuiltinOk
    simp only [builtin, Sem.run_bind, hr, Result.andThen_ok, Sem.run_pure]
    rfl
  · exact setRow_heap w g ⟨cs⟩ _ t (0, 0) hv
  · exact ⟨rfl, rfl, rfl, by simp [World.setRow], fun k _ hk => setRow_other w g k _ (fun e => hk (by rw [e]))⟩
structure EncOK (w : World) (e : Nat) : Prop where
  letter : ∀ i, i < 64 → w.cell? ⟨e, i, none⟩ = some (.int .u8 ((L64 i).toNat : Int))
  pad : w.cell? ⟨e, 320, none⟩ = some (.int .i32 61)
theorem L64_apart (i j : Nat) (hj : j < i) (hi : i < 64) : (L64 i).toNat ≠ (L64 j).toNat := by
  have h : ((List.range 64).all fun i => (List.range i).all fun j => (L64 i).toNat != (L64 j).toNat) = true := by decide +kernel
  have h1 := List.all_eq_true.1 h i (List.mem_range.2 hi)
  have h2 := List.all_eq_true.1 h1 j (List.mem_range.2 hj)
  simpa using h2
theorem L64_range (i : Nat) (hi : i < 64) : 43 ≤ (L64 i).toNat ∧ (L64 i).toNat < 128 := by
  have h : ((List.range 64).all fun i => decide (43 ≤ (L64 i).toNat) && decide ((L64 i).toNat < 128)) = true := by decide +kernel
  have h1 := List.all_eq_true.1 h i (List.mem_range.2 hi)
  simpa using h1
theorem zeros283 : (zeros prog 283).getD #[] = ⟨List.replicate 320 (.int .u8 0) ++ [.int .i32 0, .bool false]⟩ := by kernel_rfl
theorem letters_len : letters64.length = 64 := by decide +kernel
theorem ret149 (w : World) : Calls prog 149 ⟨[.string (mkS letters64)]⟩ w fun e w' => e = .returned (.pointer (some ⟨w.heap.size, 0, none⟩)) ∧ Keeps w w' ∧ EncOK w' w.heap.size := by
  refine calls_q (c149 letters64 w (fun v w' => v = .pointer (some ⟨w.heap.size, 0, none⟩) ∧ Keeps w w' ∧ EncOK w' w.heap.size) ?_) fun v w' ⟨hv, h⟩ => ⟨by rw [hv], h⟩
  unfold VC149
  rw [letters_len]
  refine ⟨fun h => absurd h (by decide), fun _ w1 hw1 => ?_⟩
  rw [zeros283] at hw1
  obtain ⟨Z, hZ, hZl⟩ : ∃ Z : List Value, Z = List.replicate 320 (.int .u8 0) ∧ Z.length = 320 := ⟨_, rfl, List.length_replicate⟩
  obtain ⟨D, hD, hDl⟩ : ∃ D : List UInt8, D = List.replicate 256 255 ∧ D.length = 256 := ⟨_, rfl, List.length_replicate⟩
  rw [← hZ] at hw1
  have hk1 : Keeps w w1 := by rw [hw1]; exact (Keeps.refl w).alloc _
  have hv1 : Var w1 w.heap.size 283 (Z ++ [.int .i32 0, .bool false]) := by rw [hw1]; exact var_alloc w _ 283
  have hgrow : ∀ {a b : World}, Keeps w a → w.heap.size < a.heap.size → a.grownBy b (some w.heap.size) → Keeps w b := fun ha _ hg => Below.grown ha hg ha.size (fun k hk => by cases hk; exact Nat.le_refl _)
  refine ⟨hv1.can (by rw [List.length_append, hZl]; decide) rfl, fun w2 hw2 => ?_⟩
  have hg2 : w1.grownBy w2 (some w.heap.size) := by rw [hw2]; exact setCell_grown w1 ⟨w.heap.size, 320, none⟩ _
  have hk2 := hgrow hk1 hv1.lt hg2
  have hv2 : Var w2 w.heap.size 283 ((Z ++ [.int .i32 0, .bool false] : List Value).set 320 (.int .i32 61)) := by rw [hw2]; exact hv1.set 320 _
  have hset : ((Z ++ [.int .i32 0, .bool false] : List Value).set 320 (.int .i32 61)) = Z ++ [.int .i32 61, .bool false] := by
    rw [List.set_append_right _ _ (by omega), hZl]; rfl
  rw [hset] at hv2
  refine copy_str hv2 letters64 rfl (by rw [letters_len]; decide) (by rw [letters_len, List.length_append, hZl]; decide) _ fun w3 hv3 hg3 => ?_
  have hk3 := hgrow hk2 hv2.lt hg3
  have hA : (bc letters64).length = 64 := by rw [bc_length, letters_len]
  have hB : (bc D).length = 256 := by rw [bc_length, hDl]
  have e1 : List.take 0 (Z ++ [.int .i32 61, .bool false]) ++ bc letters64 ++ List.drop (0 + letters64.length) (Z ++ [.int .i32 61, .bool false]) = bc letters64 ++ (Z.drop 64 ++ [.int .i32 61, .bool false]) := by
    rw [List.take_zero, List.nil_append, Nat.zero_add, letters_len, List.drop_append_of_le_length (by omega)]
  rw [e1] at hv3
  refine copy_str hv3 D (by rw [hD]; kernel_rfl) (by rw [hDl]; decide) (by rw [hDl, List.length_append, List.length_append, hA, List.length_drop, hZl]; decide) _ fun w4 hv4 hg4 => ?_
  have hk4 := hgrow hk3 hv3.lt hg4
  have e2 : List.take 64 (bc letters64 ++ (Z.drop 64 ++ [.int .i32 61, .bool false])) ++ bc D ++ List.drop (64 + D.length) (bc letters64 ++ (Z.drop 64 ++ [.int .i32 61, .bool false])) = bc letters64 ++ bc D ++ [.int .i32 61, .bool false] := by
    rw [List.take_left' hA, ← List.append_assoc (bc letters64) (Z.drop 64), List.drop_left' (by rw [List.length_append, hA, List.length_drop, hZl, hDl])]
  rw [e2] at hv4
  obtain ⟨cs4, hcs4⟩ : ∃ cs4, cs4 = bc letters64 ++ bc D ++ [Value.int .i32 61, .bool false] := ⟨_, rfl⟩
  rw [← hcs4] at hv4
  have q1 : ∀ j, j < 64 → cs4[j]? = some (.int .u8 ((L64 j).toNat : Int)) := by
    intro j hj
    rw [hcs4, List.append_assoc, List.getElem?_append_left (by omega)]
    exact bc_at (L64_get j hj)
  have q2 : cs4[320]? = some (.int .i32 61) := by
    rw [hcs4, List.getElem?_append_right (by rw [List.length_append, hA, hB]; decide), List.length_append, hA, hB]; rfl
  have q3 : ∀ c, c < 256 → cs4[64 + c]? = some (.int .u8 255) := by
    intro c hc
    rw [hcs4, List.getElem?_append_left (by rw [List.length_append, hA, hB]; omega), List.getElem?_append_right (by omega), hA]
    have : D[64 + c - 64]? = some 255 := by rw [hD, List.getElem?_replicate, if_pos (by omega)]
    exact bc_at this
  have q4 : cs4.length = 322 := by rw [hcs4]; simp only [List.length_append, hA, hB, List.length_cons, List.length_nil]
  clear hcs4
  refine ⟨fun m i w' => ∃ (k : Nat) (cs : List Value), i = k ∧ k ≤ 64 ∧ m = 64 - k ∧ Keeps w w' ∧ Var w' w.heap.size 283 cs ∧ cs.length = 322 ∧ (∀ j, j < 64 → cs[j]? = some (.int .u8 ((L64 j).toNat : Int))) ∧ cs[320]? = some (.int .i32 61) ∧
      (∀ c, c < 256 → (∀ j, j < k → (L64 j).toNat ≠ c) → cs[64 + c]? = some (.int .u8 255)), ⟨64, 0, cs4, rfl, by omega, rfl, hk4, hv4, q4, q1, q2, fun c hc _ => q3 c hc⟩, ?_⟩
  rintro m i w5 ⟨k, cs, rfl, hk, rfl, hk5, hv5, p4, p1, p2, p3⟩
  refine ⟨fun h => ?_, fun h => ?_⟩
  · have h : k < 64 := by have := of_decide_eq_true h; omega
    have hr := L64_range k h
    have hL := L64_get k h
    have e1 : ∀ x : Nat, ((⟨w.heap.size, 64, none⟩ : Addr).add (((x : Nat) : Int).toNat * 1)) = ⟨w.heap.size, 64 + x, none⟩ := fun x => by rw [add_at, Nat.mul_one, Int.toNat_natCast]
    refine ⟨L64 k, ⟨by omega, by rw [Int.toNat_natCast]; exact hL⟩, fun h10 => absurd (of_decide_eq_true h10) (by omega), fun _ => ⟨L64 k, ⟨by omega, by rw [Int.toNat_natCast]; exact hL⟩, fun h13 => absurd (of_decide_eq_true h13) (by omega), fun _ => ⟨L64 k, ⟨by omega, by rw [Int.toNat_natCast]; exact hL⟩, ⟨by omega, by omega⟩, 255, ?_, fun hx => absurd hx (by decide), fun _ => ?_⟩⟩⟩
    · rw [e1]
      exact hv5.lies.at (64 + (L64 k).toNat) (p3 _ (by omega) (fun j hj => fun e => L64_apart k j hj h e.symm)) (Nat.zero_add _).symm
    · refine ⟨[], trivial, L64 k, ⟨by omega, by rw [Int.toNat_natCast]; exact hL⟩, _, rfl, ⟨by omega, by omega⟩, ?_, fun w6 hw6 => ?_⟩
      · rw [e1]; exact Var.can (w := w5.drew.drew) hv5 (by omega) rfl
      · rw [e1] at hw6
        have hg6 : w5.drew.drew.grownBy w6 (some w.heap.size) := by rw [hw6]; exact setCell_grown _ ⟨w.heap.size, 64 + (L64 k).toNat, none⟩ _
        have hv6 : Var w6 w.heap.size 283 (cs.set (64 + (L64 k).toNat) (.int .u8 (IntKind.u8.wrap (k : Int)))) := by rw [hw6]; exact Var.set (w := w5.drew.drew) hv5 _ _
        have hk6 : Keeps w w6 := hgrow (hk5.drew.drew) hv5.lt hg6
        refine ⟨_, i64w (by omega) (by omega), 64 - (k + 1), by omega, k + 1, _, by omega, by omega, rfl, hk6, hv6, by rw [List.length_set]; exact p4, fun j hj => ?_, ?_, fun c hc hcj => ?_⟩
        · rw [List.getElem?_set_ne (by omega)]; exact p1 j hj
        · rw [List.getElem?_set_ne (by omega)]; exact p2
        · have := hcj k (by omega)
          rw [List.getElem?_set_ne (by omega)]
          exact p3 c hc fun j hj => hcj j (by omega)
  · have h : k = 64 := by have := of_decide_eq_false h; omega
    subst h
    exact ⟨rfl, hk5, fun j hj => hv5.lies.at j (p1 j hj) (Nat.zero_add _).symm, hv5.lies.at 320 p2 (Nat.zero_add _).symm⟩
theorem EncOK.grown {w w' : World} {e g : Nat} (h : EncOK w e) (hg : w.grownBy w' (some g)) (hne : e ≠ g) : EncOK w' e :=
  ⟨fun i hi => grown_cell hg hne (h.letter i hi), grown_cell hg hne h.pad⟩
theorem EncOK.keeps {w w' : World} {e : Nat} (h : EncOK w e) (k : Keeps w w') : EncOK w' e := ⟨fun i hi => k.cell (h.letter i hi), k.cell h.pad⟩
structure Enc64 (w0 : World) (l : List UInt8) (sp : Option Addr) (e g N : Nat) (k : Nat) (dp : Option Addr) (dn dc : Nat) (q : Option Addr) (qn qc : Nat) (w : World) (cs : List Value) : Prop where
  keep : w0.grownBy w (some g)
  row : Var w g 5 cs
  len : cs.length = N
  ints : ∀ j, j < N → ∃ x : Int, cs[j]? = some (.int .u8 x)
  enc : EncOK w e
  ne : e ≠ g
  done : ∀ j b, (b64F l)[j]? = some b → j < 4 * k → cs[j]? = some (.int .u8 (b.toNat : Int))
  pre : 4 * k + (b64F (l.drop (3 * k))).length = (b64F l).length
  part : b64F l = (b64F l).take (4 * k) ++ b64F (l.drop (3 * k))
  room : dn = N - 4 * k
  cap : dc = N - 4 * k
  at_ : 0 < dn → dp = some ⟨g, 4 * k, none⟩
  left : qn = l.length - 3 * k
  qcap : qn ≤ qc
  src : 0 < qn → ∃ a : Addr, sp = some a ∧ q = some (a.add (3 * k))
theorem or3 (a b c : Nat) (ha : a < 256) (hb : b < 256) (hc : c < 256) : bits .or .u64 (bits .or .u64 ((a * 65536 : Nat) : Int) ((b * 256 : Nat) : Int)) ((c : Nat) : Int) = ((a * 65536 + b * 256 + c : Nat) : Int) := by
  rw [u64_join (a * 65536) (b * 256) 16 (by omega) (by omega) (by omega) (by omega), u64_join (a * 65536 + b * 256) c 8 (by omega) (by omega) (by omega) (by omega)]
theorem and63n (n : Nat) (h : n < 16777216) : bits .and .u64 (n : Int) 63 = ((n % 64 : Nat) : Int) := u64_mask n 6 (by omega) (by decide)
theorem quad_four (n h' : Nat) : quad64 n h' 4 = [if h' < 0 then 61 else L64 (n / 2 ^ 18 % 64), if h' < 1 then 61 else L64 (n / 2 ^ 12 % 64), if h' < 2 then 61 else L64 (n / 2 ^ 6 % 64), if h' < 3 then 61 else L64 (n % 64)] := by
  simp [quad64]
theorem b64F_size : ∀ (n : Nat) (l : List UInt8), l.length ≤ n → (b64F l).length = (l.length + 2) / 3 * 4
  | 0, l, h => by
    have : l = [] := List.eq_nil_of_length_eq_zero (by omega)
    subst this; simp [b64F_nil]
  | n + 1, l, h => by
    by_cases hl : l = []
    · subst hl; simp [b64F_nil]
    · have h0 : 0 < l.length := List.length_pos_iff.2 hl
      rw [b64F_cons l hl, List.length_append, quad64_len, b64F_size n (l.drop 3) (by rw [List.length_drop]; omega), List.length_drop]
      omega
theorem set4 {cs : List Value} {o : Nat} (v0 v1 v2 v3 : Value) (h : o + 4 ≤ cs.length) (j : Nat) :
    ((((cs.set o v0).set (o + 1) v1).set (o + 2) v2).set (o + 3) v3)[j]? = if j = o then some v0 else if j = o + 1 then some v1 else if j = o + 2 then some v2 else if j = o + 3 then some v3 else cs[j]? := by
  by_cases h3 : j = o + 3
  · subst h3
    rw [List.getElem?_set_self (by simp only [List.length_set]; omega), if_neg (by omega), if_neg (by omega), if_neg (by omega), if_pos rfl]
  rw [List.getElem?_set_ne (fun e => h3 e.symm)]
  by_cases h2 : j = o + 2
  · subst h2
    rw [List.getElem?_set_self (by simp only [List.length_set]; omega), if_neg (by omega), if_neg (by omega), if_pos rfl]
  rw [List.getElem?_set_ne (fun e => h2 e.symm)]
  by_cases h1 : j = o + 1
  · subst h1
    rw [List.getElem?_set_self (by simp only [List.length_set]; omega), if_neg (by omega), if_pos rfl]
  rw [List.getElem?_set_ne (fun e => h1 e.symm)]
  by_cases h0 : j = o
  · subst h0
    rw [List.getElem?_set_self (by omega), if_pos rfl]
  rw [List.getElem?_set_ne (fun e => h0 e.symm), if_neg h0, if_neg h1, if_neg h2, if_neg h3]
section
variable {w0 : World} {l : List UInt8} {sp : Option Addr} {e g N k : Nat} {dp : Option Addr} {dn dc : Nat} {q : Option Addr} {qn qc : Nat} {w : World} {cs : List Value}
theorem put1 (hv : Var w g 5 cs) (j : Nat) (hj : j < cs.length) (v : Value) (h1 : v.oneCell' = true) :
    CanStore w ⟨g, j, none⟩ v ∧ ∀ w', w' = w.setCell ⟨g, j, none⟩ v → Var w' g 5 (cs.set j v) ∧ w.grownBy w' (some g) :=
  ⟨hv.can hj h1, fun w' hw' => by rw [hw']; exact ⟨hv.set j v, setCell_grown w ⟨g, j, none⟩ v⟩⟩
end
theorem lt_fours {a b c : Nat} (ha : a < 256) (hb : b < 256) (hc : c < 256) : a * 65536 + b * 256 + c < 16777216 := by omega
theorem part_step (l : List UInt8) (k : Nat) (qd : List UInt8) (hq : qd.length = 4) (hpre : b64F l = (b64F l).take (4 * k) ++ b64F (l.drop (3 * k))) (hlen : 4 * k + (b64F (l.drop (3 * k))).length = (b64F l).length)
    (hc : b64F (l.drop (3 * k)) = qd ++ b64F (l.drop (3 * k + 3))) :
    b64F l = (b64F l).take (4 * (k + 1)) ++ b64F (l.drop (3 * (k + 1))) ∧ 4 * (k + 1) + (b64F (l.drop (3 * (k + 1)))).length = (b64F l).length ∧ (∀ j, j < 4 → (b64F l)[4 * k + j]? = qd[j]?) := by
  have e : 3 * (k + 1) = 3 * k + 3 := by omega
  rw [e]
  have hl : ((b64F l).take (4 * k)).length = 4 * k := by rw [List.length_take]; omega
  have hcl := congrArg List.length hc
  rw [List.length_append, hq] at hcl
  have hfull : b64F l = ((b64F l).take (4 * k) ++ qd) ++ b64F (l.drop (3 * k + 3)) := by rw [List.append_assoc, ← hc]; exact hpre
  have htk : (b64F l).take (4 * (k + 1)) = (b64F l).take (4 * k) ++ qd := by
    conv => lhs; rw [hfull]
    exact List.take_left' (by rw [List.length_append, hl, hq]; omega)
  refine ⟨by rw [htk]; exact hfull, by omega, fun j hj => ?_⟩
  conv => lhs; rw [hfull]
  rw [List.getElem?_append_left (by rw [List.length_append, hl, hq]; omega), List.getElem?_append_right (by omega), hl]
  congr 1; omega
set_option maxHeartbeats 4000000 in
theorem ret210 (l : List UInt8) (sp : Option Addr) (sc e g : Nat) (w0 : World) (cs0 : List Value) (hN : cs0.length = (b64F l).length) (hi0 : ∀ j, j < (b64F l).length → ∃ x : Int, cs0[j]? = some (.int .u8 x)) (hv0 : Var w0 g 5 cs0) (he0 : EncOK w0 e) (hne : e ≠ g) (hr : ReadsB w0 sp l) (hrg : ∀ a, sp = some a → 0 < l.length → a.block ≠ g)
    (hsc : l.length ≤ sc) (hl : l.length ≤ 1000000) :
    Calls prog 210 ⟨[.pointer (some ⟨e, 0, none⟩), .slice (some ⟨g, 0, none⟩) (b64F l).length (b64F l).length, .slice sp l.length sc]⟩ w0 fun x w' => x = .returned (.tuple ⟨[]⟩) ∧ w0.grownBy w' (some g) ∧ ReadsB w' (some ⟨g, 0, none⟩) (b64F l) := by
  refine calls_q (c210 ⟨e, 0, none⟩ _ _ _ sp l.length sc w0 (fun v w' => v = .tuple ⟨[]⟩ ∧ w0.grownBy w' (some g) ∧ ReadsB w' (some ⟨g, 0, none⟩) (b64F l)) ?_) fun v w' ⟨hv, h⟩ => ⟨by rw [hv], h⟩
  unfold VC210
  have hsize := b64F_size l.length l (Nat.le_refl _)
  refine ⟨fun h => ?_, fun h => ?_⟩
  · have h : l.length = 0 := by have := of_decide_eq_true h; omega
    have : l = [] := List.eq_nil_of_length_eq_zero h
    subst this
    exact ⟨rfl, (Keeps.refl w0).grownBy _, ReadsB.nil _ _⟩
  have h0 : l.length ≠ 0 := by have := of_decide_eq_false h; omega
  have hrow : LoadsRow prog 280 w0 ⟨e, 0, none⟩ (bc letters64) := by
    refine ⟨by rw [bc_length, letters_len]; kernel_rfl, fun i v hi => ?_⟩
    obtain ⟨b, hb, rfl⟩ := bc_get hi
    have hlt : i < 64 := by have := (List.getElem?_eq_some_iff.1 hb).1; rw [letters_len] at this; exact this
    rw [L64_get i hlt] at hb
    cases hb
    rw [add_at, Nat.zero_add]; exact he0.letter i hlt
  refine ⟨bc letters64, hrow, fun m dp dn dc q qn qc w => ∃ (k : Nat) (cs : List Value), m = l.length - 3 * k ∧ Enc64 w0 l sp e g (b64F l).length k dp dn dc q qn qc w cs, ⟨l.length, 0, cs0, rfl, ⟨(Keeps.refl w0).grownBy _, hv0, hN, hi0, he0, hne, fun j b _ hj => by omega, by simp, by simp, rfl, rfl, fun _ => rfl, rfl, hsc, fun hq => ?_⟩⟩, ?_⟩
  · obtain ⟨b, hb⟩ : ∃ b, l[0]? = some b := ⟨_, List.getElem?_eq_getElem (by omega)⟩
    obtain ⟨a, ha, _⟩ := hr 0 b hb
    exact ⟨a, ha, by rw [ha]; simp [Addr.add_zero']⟩
  rintro m dp dn dc q qn qc w ⟨k, cs, rfl, I⟩
  have hleft := I.left
  have hroom := I.room
  have hcap := I.cap
  have hpre := I.pre
  have hqc := I.qcap
  have hclen := I.len
  -- the source's bytes
  have rd : ∀ (a : Addr), sp = some a → ∀ (w' : World), w0.grownBy w' (some g) → ∀ j b, l[3 * k + j]? = some b → w'.cell? ((a.add (3 * k)).add j) = some (.int .u8 (b.toNat : Int)) := by
    intro a ha w' hg j b hb
    rw [Addr.add_add]
    have := hr
    rw [ha] at this
    have hc := this.at hb
    refine grown_cell hg ?_ hc
    have hb := hrg a ha (by have := (List.getElem?_eq_some_iff.1 hb).1; omega)
    unfold Addr.add; split <;> exact hb
  -- a letter
  have lt : ∀ (w' : World), EncOK w' e → ∀ n : Nat, n < 64 → w'.cell? ((⟨e, 0, none⟩ : Addr).add (((n : Nat) : Int).toNat * 1)) = some (.int .u8 ((L64 n).toNat : Int)) := by
    intro w' he n hn
    rw [add_at, Nat.zero_add, Nat.mul_one, Int.toNat_natCast]; exact he.letter n hn
  have lpad : ∀ (w' : World), EncOK w' e → w'.cell? ((⟨e, 0, none⟩ : Addr).add 320) = some (.int .i32 61) := by
    intro w' he; rw [add_at]; exact he.pad
  refine ⟨fun h3 => ?_, fun h3 => ?_⟩
  · have h3 : 3 ≤ qn := by have := of_decide_eq_true h3; omega
    obtain ⟨a, ha, hq⟩ := I.src (by omega)
    obtain ⟨b0, hb0⟩ : ∃ b, l[3 * k + 0]? = some b := ⟨_, List.getElem?_eq_getElem (by omega)⟩
    obtain ⟨b1, hb1⟩ : ∃ b, l[3 * k + 1]? = some b := ⟨_, List.getElem?_eq_getElem (by omega)⟩
    obtain ⟨b2, hb2⟩ : ∃ b, l[3 * k + 2]? = some b := ⟨_, List.getElem?_eq_getElem (by omega)⟩
    have l0 := b0.toNat_lt
    have l1 := b1.toNat_lt
    have l2 := b2.toNat_lt
    have hdrop : l.drop (3 * k) = b0 :: b1 :: b2 :: l.drop (3 * k + 3) := by
      rw [drop_cons (by simpa using hb0), drop_cons hb1, drop_cons (by rw [show 3 * k + 1 + 1 = 3 * k + 2 by omega]; exact hb2)]
    have hval : val64 (l.drop (3 * k)) 3 = b0.toNat * 65536 + b1.toNat * 256 + b2.toNat := by
      rw [hdrop]; simp only [val64]; simp; omega
    have hn := lt_fours l0 l1 l2
    have hcons := b64F_cons (l.drop (3 * k)) (by rw [hdrop]; simp)
    rw [hval, List.drop_drop, quad_four] at hcons
    have hmin : min 3 (l.drop (3 * k)).length = 3 := by rw [List.length_drop]; omega
    rw [hmin] at hcons
    simp only [show ¬ (3 : Nat) < 0 by decide, show ¬ (3 : Nat) < 1 by decide, show ¬ (3 : Nat) < 2 by decide, show ¬ (3 : Nat) < 3 by decide, if_false] at hcons
    generalize hV : b0.toNat * 65536 + b1.toNat * 256 + b2.toNat = V at *
    have hdn : 4 ≤ dn := by
      have := congrArg List.length hcons
      simp only [List.length_append, List.length_cons, List.length_nil] at this
      omega
    have hd := I.at_ (by omega)
    obtain ⟨s1, s2, s3⟩ := part_step l k _ rfl I.part hpre hcons
    have c0 := rd a ha w I.keep 0 b0 hb0
    rw [Addr.add_zero'] at c0
    have e37 : ∃ x : Int, w.drew.cell? ((⟨g, 4 * k, none⟩ : Addr).add 3) = some (.int .u8 x) := by
      obtain ⟨x, hx⟩ := I.ints (4 * k + 3) (by omega)
      exact ⟨x, by rw [add_at]; exact I.row.lies.at (4 * k + 3) hx (Nat.zero_add _).symm⟩
    obtain ⟨x37, hx37⟩ := e37
    rw [hq, hd]
    have f18 : Int.fdiv (V : Int) (2 ^ 18) = ((V / 2 ^ 18 : Nat) : Int) := fdiv_nat V 18
    have f12 : Int.fdiv (V : Int) (2 ^ 12) = ((V / 2 ^ 12 : Nat) : Int) := fdiv_nat V 12
    have f6 : Int.fdiv (V : Int) (2 ^ 6) = ((V / 2 ^ 6 : Nat) : Int) := fdiv_nat V 6
    have a18 := and63n (V / 2 ^ 18) (by omega)
    have a12 := and63n (V / 2 ^ 12) (by omega)
    have a6 := and63n (V / 2 ^ 6) (by omega)
    have a0 := and63n V hn
    obtain ⟨p1, p2⟩ := put1 (w := w.drew) I.row (4 * k) (by omega) (.int .u8 ((L64 (V / 2 ^ 18 % 64)).toNat : Int)) rfl
    refine ⟨⟨by omega, by omega⟩, _, rfl, _, c0, (b0.toNat : Int), u64w (by omega) (by omega), by decide, ((b0.toNat * 65536 : Nat) : Int), by rw [u64w (by omega) (by omega)]; omega, ⟨by omega, by omega⟩, _, rfl, _, rd a ha w I.keep 1 b1 hb1, (b1.toNat : Int), u64w (by omega) (by omega), by decide, ((b1.toNat * 256 : Nat) : Int), by rw [u64w (by omega) (by omega)]; omega, _, rfl,
      ⟨by omega, by omega⟩, _, rfl, _, rd a ha w I.keep 2 b2 hb2, (b2.toNat : Int), u64w (by omega) (by omega), (V : Int), by rw [or3 _ _ _ l0 l1 l2, hV], ⟨by omega, by omega⟩, _, rfl, x37, hx37, by decide, _, f18, _, a18, ⟨by omega, by omega⟩, _, lt w.drew (I.enc.keeps (Keeps.refl w).drew) _ (Nat.mod_lt _ (by decide)), ⟨by omega, by omega⟩, _, rfl, p1, fun w2 hw2 => ?_⟩
    obtain ⟨v2, g2⟩ := p2 w2 hw2
    have E2 := (I.enc.keeps (Keeps.refl w).drew).grown g2 hne
    have G2 : w0.grownBy w2 (some g) := grown_trans (grown_trans I.keep ((Keeps.refl w).drew.grownBy _)) g2
    obtain ⟨p3, p4⟩ := put1 v2 (4 * k + 1) (by rw [List.length_set]; omega) (.int .u8 ((L64 (V / 2 ^ 12 % 64)).toNat : Int)) rfl
    refine ⟨by decide, _, f12, _, a12, ⟨by omega, by omega⟩, _, lt w2 E2 _ (Nat.mod_lt _ (by decide)), ⟨by omega, by omega⟩, _, rfl, by rw [add_at]; exact p3, fun w3 hw3 => ?_⟩
    rw [add_at] at hw3
    obtain ⟨v3, g3⟩ := p4 w3 hw3
    have E3 := E2.grown g3 hne
    obtain ⟨p5, p6⟩ := put1 v3 (4 * k + 2) (by simp only [List.length_set]; omega) (.int .u8 ((L64 (V / 2 ^ 6 % 64)).toNat : Int)) rfl
    refine ⟨by decide, _, f6, _, a6, ⟨by omega, by omega⟩, _, lt w3 E3 _ (Nat.mod_lt _ (by decide)), ⟨by omega, by omega⟩, _, rfl, by rw [add_at]; exact p5, fun w4 hw4 => ?_⟩
    rw [add_at] at hw4
    obtain ⟨v4, g4⟩ := p6 w4 hw4
    have E4 := E3.grown g4 hne
    obtain ⟨p7, p8⟩ := put1 v4 (4 * k + 3) (by simp only [List.length_set]; omega) (.int .u8 ((L64 (V % 64)).toNat : Int)) rfl
    refine ⟨_, a0, ⟨by omega, by omega⟩, _, lt w4 E4 _ (Nat.mod_lt _ (by decide)), ⟨by omega, by omega⟩, _, rfl, by rw [add_at]; exact p7, fun w5 hw5 => ?_⟩
    rw [add_at] at hw5
    obtain ⟨v5, g5⟩ := p8 w5 hw5
    refine ⟨⟨by omega, by omega, by omega⟩, ⟨by omega, by omega, by omega⟩, l.length - 3 * (k + 1), by omega, k + 1, _, rfl, ⟨grown_trans (grown_trans (grown_trans G2 g3) g4) g5, v5, by simp only [List.length_set]; exact hclen, ?_, E4.grown g5 hne, hne, ?_, s2, s1, by omega, by omega, fun h => ?_, by omega, by omega, fun h => ?_⟩⟩
    · intro j hj
      rw [set4 _ _ _ _ (by omega)]
      repeat' split
      all_goals first | exact ⟨_, rfl⟩ | exact I.ints j hj
    · intro j b hj hjk
      rw [set4 _ _ _ _ (by omega)]
      rcases Nat.lt_or_ge j (4 * k) with hlt | hge
      · rw [if_neg (by omega), if_neg (by omega), if_neg (by omega), if_neg (by omega)]
        exact I.done j b hj hlt
      · obtain ⟨i, rfl⟩ : ∃ i, j = 4 * k + i := ⟨j - 4 * k, by omega⟩
        rw [s3 i (by omega)] at hj
        have : i = 0 ∨ i = 1 ∨ i = 2 ∨ i = 3 := by omega
        rcases this with rfl | rfl | rfl | rfl <;> simp at hj <;> subst hj <;> simp
    · have : dc ≠ 4 := by omega
      unfold slAddr
      rw [if_neg this]
      simp only [Option.map_some, add_at]
      congr 2
    · refine ⟨a, ha, ?_⟩
      have : qc ≠ 3 := by omega
      unfold slAddr
      rw [if_neg this]
      simp only [Option.map_some, Addr.add_add]
      rfl
  · have h3 : qn < 3 := by have := of_decide_eq_false h3; omega
    -- the last four
    have last : ∀ (w5 : World) (y0 y1 y2 y3 : UInt8), b64F (l.drop (3 * k)) = [y0, y1, y2, y3] → Var w5 g 5 ((((cs.set (4 * k) (.int .u8 (y0.toNat : Int))).set (4 * k + 1) (.int .u8 (y1.toNat : Int))).set (4 * k + 2) (.int .u8 (y2.toNat : Int))).set (4 * k + 3) (.int .u8 (y3.toNat : Int))) → ReadsB w5 (some ⟨g, 0, none⟩) (b64F l) := by
      intro w5 y0 y1 y2 y3 hc hv j b hj
      have hd : l.drop (3 * k + 3) = [] := List.drop_eq_nil_of_le (by omega)
      obtain ⟨s1, s2, s3⟩ := part_step l k [y0, y1, y2, y3] rfl I.part hpre (by rw [hd, b64F_nil, List.append_nil]; exact hc)
      have hjl := (List.getElem?_eq_some_iff.1 hj).1
      have hcl := congrArg List.length hc
      simp only [List.length_cons, List.length_nil] at hcl
      refine ⟨_, rfl, ?_⟩
      rw [add_at]
      refine hv.lies.at j ?_ rfl
      rw [set4 _ _ _ _ (by omega)]
      rcases Nat.lt_or_ge j (4 * k) with hlt | hge
      · rw [if_neg (by omega), if_neg (by omega), if_neg (by omega), if_neg (by omega)]
        exact I.done j b hj hlt
      · obtain ⟨i, rfl⟩ : ∃ i, j = 4 * k + i := ⟨j - 4 * k, by omega⟩
        rw [s3 i (by omega)] at hj
        have : i = 0 ∨ i = 1 ∨ i = 2 ∨ i = 3 := by omega
        rcases this with rfl | rfl | rfl | rfl <;> simp at hj <;> subst hj <;> simp
    refine ⟨fun hq0 => ?_, fun hq0 => ⟨fun hq1 => ?_, fun hq1 => ⟨fun hq2 => ?_, fun hq2 => ?_⟩⟩⟩
    · have hq0 : qn = 0 := by have := of_decide_eq_true hq0; omega
      have hd : l.drop (3 * k) = [] := List.drop_eq_nil_of_le (by omega)
      rw [hd, b64F_nil, List.length_nil] at hpre
      refine ⟨rfl, I.keep, fun j b hj => ⟨_, rfl, ?_⟩⟩
      rw [add_at]
      exact I.row.lies.at j (I.done j b hj (by have := (List.getElem?_eq_some_iff.1 hj).1; omega)) rfl
    · have hq1 : qn = 1 := by have := of_decide_eq_true hq1; omega
      obtain ⟨a, ha, hq⟩ := I.src (by omega)
      obtain ⟨b0, hb0⟩ : ∃ b, l[3 * k + 0]? = some b := ⟨_, List.getElem?_eq_getElem (by omega)⟩
      have l0 := b0.toNat_lt
      have hd : l.drop (3 * k + 1) = [] := List.drop_eq_nil_of_le (by omega)
      have hdrop : l.drop (3 * k) = [b0] := by rw [drop_cons (by simpa using hb0), hd]
      have hval : val64 [b0] 3 = b0.toNat * 65536 := by simp only [val64]; simp; omega
      have hcons := b64F_cons [b0] (by simp)
      rw [hval, quad_four] at hcons
      simp only [List.length_cons, List.length_nil, List.drop_succ_cons, List.drop_nil, b64F_nil, List.append_nil, show min 3 (0 + 1) = 1 from rfl, show ¬ (1 : Nat) < 0 by decide, show ¬ (1 : Nat) < 1 by decide, show (1 : Nat) < 2 by decide, show (1 : Nat) < 3 by decide, if_false, if_true] at hcons
      rw [← hdrop] at hcons
      generalize hV : b0.toNat * 65536 = V at *
      have hn : V < 16777216 := by omega
      have hdn : 4 ≤ dn := by
        have := congrArg List.length hcons
        simp only [List.length_cons, List.length_nil] at this
        omega
      have hd := I.at_ (by omega)
      have c0 := rd a ha w I.keep 0 b0 hb0
      rw [Addr.add_zero'] at c0
      rw [hq, hd]
      have f18 : Int.fdiv (V : Int) (2 ^ 18) = ((V / 2 ^ 18 : Nat) : Int) := fdiv_nat V 18
      have f12 : Int.fdiv (V : Int) (2 ^ 12) = ((V / 2 ^ 12 : Nat) : Int) := fdiv_nat V 12
      have a18 := and63n (V / 2 ^ 18) (by omega)
      have a12 := and63n (V / 2 ^ 12) (by omega)
      obtain ⟨p1, p2⟩ := put1 I.row (4 * k) (by omega) (.int .u8 ((L64 (V / 2 ^ 18 % 64)).toNat : Int)) rfl
      refine ⟨⟨by omega, by omega⟩, _, rfl, _, c0, (b0.toNat : Int), u64w (by omega) (by omega), by decide, (V : Int), by rw [u64w (by omega) (by omega)]; omega, by decide, _, f18, _, a18, ⟨by omega, by omega⟩, _, lt w I.enc _ (Nat.mod_lt _ (by decide)), ⟨by omega, by omega⟩, _, rfl, p1, fun w2 hw2 => ?_⟩
      obtain ⟨v2, g2⟩ := p2 w2 hw2
      have E2 := I.enc.grown g2 hne
      have G2 : w0.grownBy w2 (some g) := grown_trans I.keep g2
      obtain ⟨p3, p4⟩ := put1 v2 (4 * k + 1) (by rw [List.length_set]; omega) (.int .u8 ((L64 (V / 2 ^ 12 % 64)).toNat : Int)) rfl
      refine ⟨by decide, _, f12, _, a12, ⟨by omega, by omega⟩, _, lt w2 E2 _ (Nat.mod_lt _ (by decide)), ⟨by omega, by omega⟩, _, rfl, by rw [add_at]; exact p3, fun w3 hw3 => ?_⟩
      rw [add_at] at hw3
      obtain ⟨v3, g3⟩ := p4 w3 hw3
      have E3 := E2.grown g3 hne
      refine ⟨61, lpad w3 E3, fun _ => ⟨61, lpad w3 E3, 61, rfl, ⟨by omega, by omega⟩, _, rfl, ?_⟩, fun h => absurd h (by decide)⟩
      obtain ⟨p5, p6⟩ := put1 v3 (4 * k + 2) (by simp only [List.length_set]; omega) (.int .u8 61) rfl
      refine ⟨by rw [add_at]; exact p5, fun w4 hw4 => ?_⟩
      rw [add_at] at hw4
      obtain ⟨v4, g4⟩ := p6 w4 hw4
      have E4 := E3.grown g4 hne
      obtain ⟨p7, p8⟩ := put1 v4 (4 * k + 3) (by simp only [List.length_set]; omega) (.int .u8 61) rfl
      refine ⟨61, lpad w4 E4, 61, rfl, ⟨by omega, by omega⟩, _, rfl, by rw [add_at]; exact p7, fun w5 hw5 => ?_⟩
      rw [add_at] at hw5
      obtain ⟨v5, g5⟩ := p8 w5 hw5
      exact ⟨rfl, grown_trans (grown_trans (grown_trans G2 g3) g4) g5, last w5 _ _ 61 61 hcons v5⟩
    · have hq2 : qn = 2 := by have := of_decide_eq_true hq2; omega
      obtain ⟨a, ha, hq⟩ := I.src (by omega)
      obtain ⟨b0, hb0⟩ : ∃ b, l[3 * k + 0]? = some b := ⟨_, List.getElem?_eq_getElem (by omega)⟩
      obtain ⟨b1, hb1⟩ : ∃ b, l[3 * k + 1]? = some b := ⟨_, List.getElem?_eq_getElem (by omega)⟩
      have l0 := b0.toNat_lt
      have l1 := b1.toNat_lt
      have hd : l.drop (3 * k + 1 + 1) = [] := List.drop_eq_nil_of_le (by omega)
      have hdrop : l.drop (3 * k) = [b0, b1] := by rw [drop_cons (by simpa using hb0), drop_cons hb1, hd]
      have hval : val64 [b0, b1] 3 = b0.toNat * 65536 + b1.toNat * 256 := by simp only [val64]; simp; omega
      have hcons := b64F_cons [b0, b1] (by simp)
      rw [hval, quad_four] at hcons
      simp only [List.length_cons, List.length_nil, List.drop_succ_cons, List.drop_nil, b64F_nil, List.append_nil, show min 3 (0 + 1 + 1) = 2 from rfl, show ¬ (2 : Nat) < 0 by decide, show ¬ (2 : Nat) < 1 by decide, show ¬ (2 : Nat) < 2 by decide, show (2 : Nat) < 3 by decide, if_false, if_true] at hcons
      rw [← hdrop] at hcons
      have hor : bits .or .u64 ((b0.toNat * 65536 : Nat) : Int) ((b1.toNat * 256 : Nat) : Int) = ((b0.toNat * 65536 + b1.toNat * 256 : Nat) : Int) := u64_join (b0.toNat * 65536) (b1.toNat * 256) 16 (by omega) (by omega) (by omega) (by omega)
      generalize hV : b0.toNat * 65536 + b1.toNat * 256 = V at *
      have hn : V < 16777216 := by omega
      have hdn : 4 ≤ dn := by
        have := congrArg List.length hcons
        simp only [List.length_cons, List.length_nil] at this
        omega
      have hd := I.at_ (by omega)
      have c0 := rd a ha w I.keep 0 b0 hb0
      rw [Addr.add_zero'] at c0
      rw [hq, hd]
      have f18 : Int.fdiv (V : Int) (2 ^ 18) = ((V / 2 ^ 18 : Nat) : Int) := fdiv_nat V 18
      have f12 : Int.fdiv (V : Int) (2 ^ 12) = ((V / 2 ^ 12 : Nat) : Int) := fdiv_nat V 12
      have f6 : Int.fdiv (V : Int) (2 ^ 6) = ((V / 2 ^ 6 : Nat) : Int) := fdiv_nat V 6
      have a18 := and63n (V / 2 ^ 18) (by omega)
      have a12 := and63n (V / 2 ^ 12) (by omega)
      have a6 := and63n (V / 2 ^ 6) (by omega)
      obtain ⟨p1, p2⟩ := put1 (w := w.drew) I.row (4 * k) (by omega) (.int .u8 ((L64 (V / 2 ^ 18 % 64)).toNat : Int)) rfl
      refine ⟨⟨by omega, by omega⟩, _, rfl, _, c0, (b0.toNat : Int), u64w (by omega) (by omega), by decide, ((b0.toNat * 65536 : Nat) : Int), by rw [u64w (by omega) (by omega)]; omega, ⟨by omega, by omega⟩, _, rfl, _, rd a ha w I.keep 1 b1 hb1, (b1.toNat : Int), u64w (by omega) (by omega), by decide, ((b1.toNat * 256 : Nat) : Int), by rw [u64w (by omega) (by omega)]; omega, (V : Int), hor,
        by decide, _, f18, _, a18, ⟨by omega, by omega⟩, _, lt w.drew (I.enc.keeps (Keeps.refl w).drew) _ (Nat.mod_lt _ (by decide)), ⟨by omega, by omega⟩, _, rfl, p1, fun w2 hw2 => ?_⟩
      obtain ⟨v2, g2⟩ := p2 w2 hw2
      have E2 := (I.enc.keeps (Keeps.refl w).drew).grown g2 hne
      have G2 : w0.grownBy w2 (some g) := grown_trans (grown_trans I.keep ((Keeps.refl w).drew.grownBy _)) g2
      obtain ⟨p3, p4⟩ := put1 v2 (4 * k + 1) (by rw [List.length_set]; omega) (.int .u8 ((L64 (V / 2 ^ 12 % 64)).toNat : Int)) rfl
      refine ⟨by decide, _, f12, _, a12, ⟨by omega, by omega⟩, _, lt w2 E2 _ (Nat.mod_lt _ (by decide)), ⟨by omega, by omega⟩, _, rfl, by rw [add_at]; exact p3, fun w3 hw3 => ?_⟩
      rw [add_at] at hw3
      obtain ⟨v3, g3⟩ := p4 w3 hw3
      have E3 := E2.grown g3 hne
      obtain ⟨p5, p6⟩ := put1 v3 (4 * k + 2) (by simp only [List.length_set]; omega) (.int .u8 ((L64 (V / 2 ^ 6 % 64)).toNat : Int)) rfl
      refine ⟨by decide, _, f6, _, a6, ⟨by omega, by omega⟩, _, lt w3 E3 _ (Nat.mod_lt _ (by decide)), ⟨by omega, by omega⟩, _, rfl, by rw [add_at]; exact p5, fun w4 hw4 => ?_⟩
      rw [add_at] at hw4
      obtain ⟨v4, g4⟩ := p6 w4 hw4
      have E4 := E3.grown g4 hne
      obtain ⟨p7, p8⟩ := put1 v4 (4 * k + 3) (by simp only [List.length_set]; omega) (.int .u8 61) rfl
      refine ⟨61, lpad w4 E4, fun _ => ⟨61, lpad w4 E4, 61, rfl, ⟨by omega, by omega⟩, _, rfl, by rw [add_at]; exact p7, fun w5 hw5 => ?_⟩, fun h => absurd h (by decide)⟩
      rw [add_at] at hw5
      obtain ⟨v5, g5⟩ := p8 w5 hw5
      exact ⟨rfl, grown_trans (grown_trans (grown_trans G2 g3) g4) g5, last w5 _ _ _ 61 hcons v5⟩
    · have q0 := of_decide_eq_false hq0
      have q1 := of_decide_eq_false hq1
      have q2 := of_decide_eq_false hq2
      omega
theorem ret89 (sp : Option Addr) (sc : Nat) (l : List UInt8) (w : World) (hr : ReadsB w sp l) (hsc : l.length ≤ sc) (hl : l.length ≤ 100000) : Ret 89 [.slice sp l.length sc] w (.string (mkS (b64F l))) := by
  refine Ret.of (c89 sp l.length sc w _ ?_)
  unfold VC89
  refine (ret149 w).mono ?_
  rintro e w1 ⟨rfl, hk1, hE1⟩
  refine ⟨_, rfl, ?_⟩
  have hr1 := hr.keeps hk1
  have hsize := b64F_size l.length l (Nat.le_refl _)
  have h150 : Ret 150 [.pointer (some ⟨w.heap.size, 0, none⟩), .slice sp l.length sc] w1 (.string (mkS (b64F l))) := by
    refine Ret.of (c150 _ sp l.length sc w1 _ ?_)
    unfold VC150
    have h209 : Ret 209 [.pointer (some ⟨w.heap.size, 0, none⟩), .int .i64 (l.length : Int)] w1 (.int .i64 ((b64F l).length : Int)) := by
      refine Ret.of (c209 _ _ w1 _ ?_)
      unfold VC209
      refine ⟨61, by rw [add_at]; exact hE1.pad, fun h => absurd h (by decide), fun _ => ⟨(l.length : Int) + 2, i64w (by omega) (by omega), by decide, (((l.length + 2) / 3 : Nat) : Int), ?_, ((b64F l).length : Int), ?_, rfl, Keeps.refl _⟩⟩
      · rw [Int.tdiv_eq_ediv_of_nonneg (by omega), i64w (by omega) (by omega)]; omega
      · rw [i64w (by omega) (by omega), hsize]; omega
    refine h209.go fun w2 hk2 => ⟨_, rfl, ?_⟩
    obtain ⟨i, hi, hs, hby, hz⟩ := i5
    have hmk := run_makeSlice (P := prog) w2 23 5 i (.int .u8 0) u23 hi hz .i64 .i64 ((b64F l).length : Int) ((b64F l).length : Int) (by omega) (by omega) (by rw [hs]; omega) (by rw [hby]; omega) (by omega)
    have hzc : (Value.int .u8 0).cells = #[.int .u8 0] := rfl
    rw [Int.toNat_natCast, hs, hzc, Nat.mul_one] at hmk
    refine ⟨_, _, _, _, hmk, ?_⟩
    have hk3 : Keeps w2 (w2.alloc (.cells (madeCells #[.int .u8 0] (b64F l).length) 5)) := (Keeps.refl _).alloc _
    have hv3 : Var (w2.alloc (.cells (madeCells #[.int .u8 0] (b64F l).length) 5)) w2.heap.size 5 (madeCells #[.int .u8 0] (b64F l).length).toList := var_alloc w2 (madeCells #[.int .u8 0] (b64F l).length).toList 5
    have hcl : (madeCells #[.int .u8 0] (b64F l).length).toList.length = (b64F l).length := by rw [Array.length_toList, size_madeCells]
    have hci : ∀ j, j < (b64F l).length → ∃ x : Int, (madeCells #[.int .u8 0] (b64F l).length).toList[j]? = some (.int .u8 x) := by
      intro j hj
      refine ⟨0, ?_⟩
      unfold madeCells
      simp [hj, Nat.mod_one]
    generalize (madeCells #[.int .u8 0] (b64F l).length).toList = zs at *
    generalize w2.alloc (.cells (madeCells #[.int .u8 0] (b64F l).length) 5) = w3 at *
    have hEl : w.heap.size < w1.heap.size := cell_lt hE1.pad
    have h12 := hk2.size
    have hk23 := hk2.trans hk3
    refine (ret210 l sp sc w.heap.size w2.heap.size w3 zs hcl hci hv3 (hE1.keeps hk23) (by omega) (hr1.keeps hk23) (fun a ha h0 e => ?_) hsc (by omega)).mono ?_
    · obtain ⟨b, hb⟩ : ∃ b, l[0]? = some b := ⟨_, List.getElem?_eq_getElem h0⟩
      rw [ha] at hr1
      have hc := hr1.at hb
      rw [Addr.add_zero'] at hc
      have := cell_lt hc
      omega
    · rintro x w4 ⟨rfl, hg4, hr4⟩
      have hk4 : Keeps w1 w4 := Below.grown hk23 hg4 hk23.size (fun k hk => by cases hk; exact h12)
      exact ⟨rfl, b64F l, w4, conv_string hr4 rfl, rfl, hk4⟩
  exact h150.go fun w2 hk2 => ⟨_, rfl, rfl, hk1.trans hk2⟩
theorem ret208 (s : List UInt8) (r : Nat) (hr : r < 128) (hs : s.length ≤ 1000000) (w : World) : Calls prog 208 ⟨[.string (mkS s), .int .i32 (r : Int)]⟩ w fun e w' => ∃ x : Int, e = .returned (.int .i64 x) ∧ decide (0 ≤ x) = hasB s r ∧ Keeps w w' := by
  refine calls_q (c208 s r w (fun v w' => ∃ x : Int, v = .int .i64 x ∧ decide (0 ≤ x) = hasB s r ∧ Keeps w w') ?_) fun v w' ⟨x, hv, h⟩ => ⟨x, by rw [hv], h⟩
  unfold VC208
  intro Kx hK
  have key : Kx w := by
    refine hK w fun w2 hw2 => ?_
    have hk2 : Keeps w w2 := by rw [hw2]; exact (Keeps.refl w).alloc _
    refine ⟨fun m w3 => Keeps w w3 ∧ ∃ pos : Nat, w3.heap[w.heap.size]? = some (.stringIter (mkS s) pos) ∧ pos ≤ s.length ∧ m = s.length - pos ∧ hasB s r = hasB (s.drop pos) r, ⟨s.length, hk2, 0, by rw [hw2]; exact heap_alloc_new w _, by omega, rfl, by simp⟩, ?_⟩
    rintro m w3 ⟨hk3, pos, hit, hpl, rfl, hh⟩
    refine ⟨s, pos, hit, fun hlt w4 hw4 => ?_, fun hge => ?_⟩
    · obtain ⟨b, hb⟩ : ∃ b, s[pos]? = some b := ⟨_, List.getElem?_eq_getElem hlt⟩
      have hk4 : Keeps w w4 := by rw [hw4]; exact below_iter hk3 _ (Nat.le_refl _) _
      have hit4 : w4.heap[w.heap.size]? = some (.stringIter (mkS s) (pos + (Utf8.decode (mkS s) pos).2)) := by
        rw [hw4]
        have : w.heap.size < w3.heap.size := (Array.getElem?_eq_some_iff.1 hit).1
        simp [this]
      have hcons := hasB_drop_cons hb r
      by_cases hba : b.toNat < 128
      · have hd := decode_one s pos b hb hba
        rw [hd] at hit4 ⊢
        refine ⟨fun he => ⟨_, rfl, ?_, hk4⟩, fun he => ⟨s.length - (pos + 1), by omega, hk4, pos + 1, hit4, by omega, rfl, ?_⟩⟩
        · have he := of_decide_eq_true he
          have : b.toNat = r := by omega
          rw [hh, hcons, this]
          simp
        · have he := of_decide_eq_false he
          have : (b.toNat == r) = false := by rw [beq_eq_false_iff_ne]; omega
          rw [hh, hcons, this]; rfl
      · obtain ⟨h1, h2, h3, h4⟩ := dec_big s pos b hb (by omega)
        generalize Utf8.decode (mkS s) pos = D at *
        refine ⟨fun he => absurd (of_decide_eq_true he) (by omega), fun he => ⟨s.length - (pos + D.2), by omega, hk4, pos + D.2, hit4, h3, rfl, ?_⟩⟩
        rw [hh]
        have skip : ∀ k, k ≤ D.2 → 1 ≤ k → hasB (s.drop pos) r = hasB (s.drop (pos + k)) r := by
          intro k
          induction k with
          | zero => intro _ h; omega
          | succ k ih =>
            intro hk _
            rcases Nat.eq_zero_or_pos k with rfl | hk0
            · rw [hcons]
              have : (b.toNat == r) = false := by rw [beq_eq_false_iff_ne]; omega
              rw [this]; rfl
            · rw [ih (by omega) hk0]
              obtain ⟨c, hc1, hc2⟩ := h4 k hk0 (by omega)
              rw [hasB_drop_cons hc1 r]
              have : (c.toNat == r) = false := by rw [beq_eq_false_iff_ne]; omega
              rw [this]; rfl
        exact skip D.2 (Nat.le_refl _) h2
    · have hd : s.drop pos = [] := List.drop_eq_nil_of_le (by omega)
      refine ⟨_, rfl, ?_, hk3⟩
      rw [hh, hd]; rfl
  refine ⟨fun _ => ⟨fun h => absurd (of_decide_eq_true h) (by omega), fun _ => ⟨fun h => absurd (of_decide_eq_true h) (by omega), fun _ => ⟨fun h => absurd (of_decide_eq_true h) (by omega), fun _ => key⟩⟩⟩, fun _ => key⟩
theorem ret147 (s : List UInt8) (r : Nat) (hr : r < 128) (hs : s.length ≤ 1000000) (w : World) : Ret 147 [.string (mkS s), .int .i32 (r : Int)] w (.bool (hasB s r)) := by
  refine Ret.of (c147 s r w _ ?_)
  unfold VC147
  refine (ret208 s r hr hs w).mono ?_
  rintro e w1 ⟨x, rfl, hx, hk⟩
  exact ⟨x, rfl, by rw [hx], hk⟩
theorem ret87 {F : Nat → List UInt8} (hF : FloatIs F) (n : Nat) (hn : n < 18446744073709551616) (he69 : (69 : UInt8) ∉ dblF F n) (w : World) (ht : Tabs w) : Ret 87 [.float .f64 n] w (.string (mkS (dblF F n))) := by
  refine Ret.of (c87 n w _ ?_)
  unfold VC87
  have hl := (hF n).1
  by_cases hnan : nanB n = true
  · have hdn : dblF F n = [78, 97, 78] := by unfold dblF; rw [if_pos hnan]
    obtain ⟨nan_inf, nan_ninf⟩ := nan_not_inf hnan
    refine (ret29p n w).go fun w1 hk1 => ⟨_, rfl, (fun h => by rw [nan_inf] at h; cases h), fun _ => (ret29n n w1).go fun w2 hk2 => ⟨_, rfl, (fun h => by rw [nan_ninf] at h; cases h), fun _ => (ret28 n w2).go fun w3 hk3 => ⟨_, rfl, (fun _ => ⟨by rw [hdn], (hk1.trans hk2).trans hk3⟩), (fun h => by rw [hnan] at h; cases h)⟩⟩⟩
  · have hnan : nanB n = false := by simpa using hnan
    refine (ret29p n w).go fun w1 hk1 => ⟨_, rfl, fun h => ⟨?_, hk1⟩, fun h1 => (ret29n n w1).go fun w2 hk2 => ⟨_, rfl, fun h => ⟨?_, hk1.trans hk2⟩, fun h2 => (ret28 n w2).go fun w3 hk3 => ⟨_, rfl, (fun h => by rw [hnan] at h; cases h), fun _ => ?_⟩⟩⟩
    · unfold dblF; rw [hnan, h]; rfl
    · unfold dblF; rw [hnan, h1, h]; rfl
    · have hk3' := (hk1.trans hk2).trans hk3
      refine ((hF n).2 hn w3 (ht.keeps hk3')).go fun w4 hk4 => ⟨_, rfl, (ret147 (F n) 46 (by decide) (by omega) w4).go fun w5 hk5 => ⟨_, rfl, ?_⟩⟩
      have hk5' := (hk3'.trans hk4).trans hk5
      have hdbl : dblF F n = if hasB (F n) 69 || hasB (F n) 46 then F n else F n ++ [46, 48] := by
        unfold dblF; rw [hnan, h1, h2, hasB_dot]; rfl
      have he : hasB (F n) 69 = false := by
        rw [Bool.eq_false_iff]
        intro hx
        apply he69
        rw [hdbl, hx, Bool.true_or, if_pos rfl]
        unfold hasB at hx
        rw [List.any_eq_true] at hx
        obtain ⟨b, hb, hb2⟩ := hx
        have : b = 69 := UInt8.toNat_inj.1 (by simpa using hb2)
        rw [← this]; exact hb
      refine ⟨fun hy => ⟨by simp; omega, ?_, hk5'⟩, fun hy => ⟨?_, hk5'⟩⟩
      · have hy : hasB (F n) 46 = false := by simpa using hy
        rw [hdbl, he, hy]; rfl
      · have hy : hasB (F n) 46 = true := by simpa using hy
        rw [hdbl, hy, Bool.or_true]; rfl
end Go.Proofs.Tryz
