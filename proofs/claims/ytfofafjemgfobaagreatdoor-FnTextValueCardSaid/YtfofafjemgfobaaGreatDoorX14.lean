/- Parts of a proof, joined: R1, VO, B1, A16, B2. -/
import Derived.Test.YtfofafjemgfobaaGreatDoorX4
import Derived.Test.YtfofafjemgfobaaGreatDoorX7
import Derived.Test.YtfofafjemgfobaaGreatDoorX10
import Derived.Test.YtfofafjemgfobaaGreatDoorRows
import Derived.ChangeArms
import Derived.SizedLaws
import Derived.DataReads
set_option linter.unusedVariables false
namespace Go.Proofs.Tryz
open Go.Vc Go.RowKit
theorem fields26 : ∃ fs : Array Field, prog.underlying 26 = some (.struct fs) ∧ fs.size = 8 ∧ fs.toList.map (·.type) = [3, 9, 9, 2, 22, 22, 23, 24] ∧ fs.toList.map (·.offset) = [0, 1, 2, 3, 4, 5, 6, 7] :=
  ⟨match Go.Proofs.Tryz.t25.desc with | .struct fs => fs | _ => #[], by kernel_rfl, by kernel_rfl, by kernel_rfl, by kernel_rfl⟩
theorem fields46 : ∃ fs : Array Field, prog.underlying 46 = some (.struct fs) ∧ fs.size = 2 ∧ fs.toList.map (·.type) = [9, 26] ∧ fs.toList.map (·.offset) = [0, 1] :=
  ⟨match Go.Proofs.Tryz.t45.desc with | .struct fs => fs | _ => #[], by kernel_rfl, by kernel_rfl, by kernel_rfl, by kernel_rfl⟩
theorem ut3 : prog.underlying 3 = some (.int .i64) := by kernel_rfl
theorem ut2 : prog.underlying 2 = some (.int .i64) := by kernel_rfl
theorem ut22 : prog.underlying 22 = some (.int .u64) := by kernel_rfl
theorem ut9 : prog.underlying 9 = some .string := by kernel_rfl
theorem ut5 : prog.underlying 5 = some (.int .u8) := by kernel_rfl
theorem ut23 : prog.underlying 23 = some (.slice 5) := by kernel_rfl
theorem ut24 : prog.underlying 24 = some (.slice 46) := by kernel_rfl
theorem ct1 : prog.cellsOf 3 = 1 ∧ prog.cellsOf 9 = 1 ∧ prog.cellsOf 2 = 1 ∧ prog.cellsOf 22 = 1 ∧ prog.cellsOf 23 = 1 ∧ prog.cellsOf 24 = 1 ∧ prog.cellsOf 5 = 1 ∧ prog.cellsOf 26 = 8 ∧ prog.cellsOf 46 = 9 :=
  ⟨by kernel_rfl, by kernel_rfl, by kernel_rfl, by kernel_rfl, by kernel_rfl, by kernel_rfl, by kernel_rfl, by kernel_rfl, by kernel_rfl⟩
theorem bt5 : prog.bytesOf 5 = 1 := by kernel_rfl
theorem bt46 : prog.bytesOf 46 = 128 := by kernel_rfl
theorem wf_u8 {z : Int} (h : (Lit.int .u8 z).wf = true) : 0 ≤ z ∧ z ≤ 255 := by
  simp only [Lit.wf, Bool.and_eq_true, decide_eq_true_eq] at h
  have e1 : IntKind.u8.min = 0 := by kernel_rfl
  have e2 : IntKind.u8.max = 255 := by kernel_rfl
  rw [e1, e2] at h; exact h
theorem wf_i64 {z : Int} (h : (Lit.int .i64 z).wf = true) : inI64 z := by
  simp only [Lit.wf, Bool.and_eq_true, decide_eq_true_eq] at h
  have e1 : IntKind.i64.min = -9223372036854775808 := by kernel_rfl
  have e2 : IntKind.i64.max = 9223372036854775807 := by kernel_rfl
  rw [e1, e2] at h; exact h
theorem wf_u64 {z : Int} (h : (Lit.int .u64 z).wf = true) : inU64 z := by
  simp only [Lit.wf, Bool.and_eq_true, decide_eq_true_eq] at h
  have e1 : IntKind.u64.min = 0 := by kernel_rfl
  have e2 : IntKind.u64.max = 18446744073709551615 := by kernel_rfl
  rw [e1, e2] at h; exact h
theorem list_of_forall {α : Type} {P : Nat → α → Prop} : ∀ (len : Nat), (∀ i, i < len → ∃ a, P i a) → ∃ l : List α, l.length = len ∧ ∀ i a, l[i]? = some a → P i a
  | 0, _ => ⟨[], rfl, fun i a h => by simp at h⟩
  | len + 1, h => by
    obtain ⟨l, hl, hp⟩ := list_of_forall len fun i hi => h i (by omega)
    obtain ⟨a, ha⟩ := h len (by omega)
    refine ⟨l ++ [a], by simp [hl], fun i b hb => ?_⟩
    rcases Nat.lt_or_ge i l.length with h1 | h1
    · rw [List.getElem?_append_left h1] at hb
      exact hp i b hb
    · rw [List.getElem?_append_right h1] at hb
      have : i = l.length := by
        have := (List.getElem?_eq_some_iff.1 hb).1
        simp at this; omega
      subst this
      simp at hb
      subst hb
      rw [hl]; exact ha
theorem weightsAll_mem' {H : Type} {P : Program} {e : TypeId} : ∀ {l : List (DataW H)} {d : DataW H}, d ∈ l → ∀ n ∈ d.weights P e, n ∈ DataW.weightsAll P e l
  | a :: l, d, hm, n, hn => by
    rw [DataW.weightsAll, List.mem_append]
    rcases List.mem_cons.1 hm with rfl | hm
    · exact .inl hn
    · exact .inr (weightsAll_mem' hm n hn)
section
variable {H : Type} {enc : TypeId × Value → H} {W : World} {base : Nat} {sp : Nat → Bool} {held : Bool}
theorem open_bytes {fuel : Nat} {cs : List Value} {x : DataW H × List MemPlace} (h : DataW.trod enc prog W base sp held fuel 23 cs = some x) (hw : ∀ n ∈ x.1.weights prog 23, n ≤ reachBytes) :
    ∃ (p : Option Addr) (l : List UInt8) (c : Nat), cs = [.slice p l.length c] ∧ ReadsB W p l ∧ (p = none → c = 0) ∧ l.length ≤ c ∧ l.length ≤ 1125899906842624 := by
  rcases DataW.trod_slice ut23 h with ⟨rfl, rfl⟩ | ⟨a, len, cap, elems, rest, n, _, rfl, rfl, hb, hl, hm, hlen, hel, _⟩
  · exact ⟨none, [], 0, rfl, ReadsB.nil _ _, fun _ => rfl, Nat.le_refl _, by decide⟩
  · have key : ∀ i, i < len → ∃ b : UInt8, W.cell? (a.add i) = some (.int .u8 (b.toNat : Int)) := by
      intro i hi
      have h1 := hel i hi
      rw [List.getElem?_eq_getElem (by omega)] at h1
      obtain ⟨cs', h2, h3⟩ := Option.bind_eq_some_iff.1 h1
      rw [ct1.2.2.2.2.2.2.1, Nat.mul_one] at h2
      obtain ⟨_, hl', hc'⟩ := World.cells?_some h2
      obtain ⟨z, rfl, _, hwf⟩ := DataW.trod_int ut5 h3
      have h0 := hc' 0 (by omega)
      have hz := wf_u8 hwf
      refine ⟨UInt8.ofNat z.toNat, ?_⟩
      have e : ((UInt8.ofNat z.toNat).toNat : Int) = z := by
        rw [UInt8.toNat_ofNat_of_lt' (by show z.toNat < 256; omega)]; omega
      rw [e]
      have e2 : (a.add i).add 0 = a.add i := by simp [Addr.add]
      rw [e2] at h0
      exact h0
    obtain ⟨l, hll, hlp⟩ := list_of_forall (P := fun i (b : UInt8) => W.cell? (a.add i) = some (.int .u8 (b.toNat : Int))) len key
    subst hll
    refine ⟨some a, l, cap, rfl, fun j b hj => ⟨a, rfl, hlp j b hj⟩, (fun e => by cases e), hl, ?_⟩
    have := hw (((elems.map (·.1)).length + (rest.map (·.1)).length) * prog.bytesOf 5) (by simp [DataW.weights])
    rw [bt5, List.length_map, hlen] at this
    have hr : reachBytes = 140737488351232 := rfl
    omega
theorem len_succ {α : Type} {l : List α} {n : Nat} (h : l.length = n + 1) : ∃ a r, l = a :: r ∧ r.length = n := by
  cases l with
  | nil => cases h
  | cons a r => exact ⟨a, r, rfl, by simpa using h⟩
theorem len8 {α : Type} {l : List α} (h : l.length = 8) : ∃ c0 c1 c2 c3 c4 c5 c6 c7, l = [c0, c1, c2, c3, c4, c5, c6, c7] := by
  obtain ⟨c0, l0, e0, h0⟩ := len_succ h
  obtain ⟨c1, l1, e1, h1⟩ := len_succ h0
  obtain ⟨c2, l2, e2, h2⟩ := len_succ h1
  obtain ⟨c3, l3, e3, h3⟩ := len_succ h2
  obtain ⟨c4, l4, e4, h4⟩ := len_succ h3
  obtain ⟨c5, l5, e5, h5⟩ := len_succ h4
  obtain ⟨c6, l6, e6, h6⟩ := len_succ h5
  obtain ⟨c7, l7, e7, h7⟩ := len_succ h6
  have e8 := List.eq_nil_of_length_eq_zero h7
  subst e8 e7 e6 e5 e4 e3 e2 e1 e0
  exact ⟨_, _, _, _, _, _, _, _, rfl⟩
theorem open_field {t : TypeId} {fs : Array Field} {ts os : List Nat} {cs : List Value} {xs : List (DataW H × List MemPlace)} {n : Nat} (hu : prog.underlying t = some (.struct fs)) (ht : fs.toList.map (·.type) = ts) (ho : fs.toList.map (·.offset) = os) (hl : xs.length = fs.size)
    (hall : ∀ (i : Nat) (f : Field), fs[i]? = some f → DataW.trod enc prog W base sp held n f.type ((cs.drop f.offset).take (prog.cellsOf f.type)) = xs[i]?)
    (hw : ∀ m ∈ (DataW.agg (xs.map (·.1))).weights prog t, m ≤ reachBytes) (i : Nat) {ti oi : Nat} (hti : ts[i]? = some ti) (hoi : os[i]? = some oi) {ci : Nat} (hci : prog.cellsOf ti = ci) :
    ∃ y : DataW H × List MemPlace, DataW.trod enc prog W base sp held n ti ((cs.drop oi).take ci) = some y ∧ ∀ m ∈ y.1.weights prog ti, m ≤ reachBytes := by
  have hlt : i < fs.size := by
    have := (List.getElem?_eq_some_iff.1 hti).1
    rw [← ht, List.length_map, Array.length_toList] at this
    exact this
  have hf : fs[i]? = some fs[i] := Array.getElem?_eq_getElem hlt
  have e1 : fs[i].type = ti := by
    rw [← ht, List.getElem?_map] at hti
    have : fs.toList[i]? = some fs[i] := by simp [hlt]
    rw [this] at hti; simpa using hti
  have e2 : fs[i].offset = oi := by
    rw [← ho, List.getElem?_map] at hoi
    have : fs.toList[i]? = some fs[i] := by simp [hlt]
    rw [this] at hoi; simpa using hoi
  have h1 := hall i fs[i] hf
  rw [e1, e2, hci, List.getElem?_eq_getElem (by omega)] at h1
  refine ⟨_, h1, fun m hm => hw m ?_⟩
  simp only [DataW.weights, hu]
  refine DataW.weights_mem_each (j := i) (t := ti) ?_ ?_ m hm
  · rw [ht]; exact hti
  · rw [List.getElem?_map, List.getElem?_eq_getElem (by omega)]; rfl
theorem open_val : ∀ (fuel : Nat) (cs : List Value) (x : DataW H × List MemPlace), DataW.trod enc prog W base sp held fuel 26 cs = some x → (∀ n ∈ x.1.weights prog 26, n ≤ reachBytes) →
    ∃ (X : Val) (bp kp : Option Addr) (bc kc : Nat), cs = valCells X bp bc kp kc ∧ ∀ d, Hangs d W X bp bc kp kc := by
  intro fuel
  induction fuel using Nat.strongRecOn with
  | _ fuel ih =>
  intro cs x h hw
  obtain ⟨fs, hu, hsz, hts, hos⟩ := fields26
  obtain ⟨xs, n, hfu, rfl, hcl, hxl, hall⟩ := DataW.trod_struct hu h
  rw [ct1.2.2.2.2.2.2.2.1] at hcl
  obtain ⟨c0, c1, c2, c3, c4, c5, c6, c7, rfl⟩ := len8 hcl
  have fld : ∀ (i ti oi ci : Nat), ([3, 9, 9, 2, 22, 22, 23, 24] : List Nat)[i]? = some ti → ([0, 1, 2, 3, 4, 5, 6, 7] : List Nat)[i]? = some oi → prog.cellsOf ti = ci →
      ∃ y : DataW H × List MemPlace, DataW.trod enc prog W base sp held n ti (([c0, c1, c2, c3, c4, c5, c6, c7].drop oi).take ci) = some y ∧ ∀ m ∈ y.1.weights prog ti, m ≤ reachBytes :=
    fun i ti oi ci p1 p2 p3 => open_field hu hts hos hxl hall hw i p1 p2 p3
  obtain ⟨y0, h0, _⟩ := fld 0 3 0 1 rfl rfl ct1.1
  obtain ⟨y1, h1, _⟩ := fld 1 9 1 1 rfl rfl ct1.2.1
  obtain ⟨y2, h2, _⟩ := fld 2 9 2 1 rfl rfl ct1.2.1
  obtain ⟨y3, h3, _⟩ := fld 3 2 3 1 rfl rfl ct1.2.2.1
  obtain ⟨y4, h4, _⟩ := fld 4 22 4 1 rfl rfl ct1.2.2.2.1
  obtain ⟨y5, h5, _⟩ := fld 5 22 5 1 rfl rfl ct1.2.2.2.1
  obtain ⟨y6, h6, w6⟩ := fld 6 23 6 1 rfl rfl ct1.2.2.2.2.1
  obtain ⟨y7, h7, w7⟩ := fld 7 24 7 1 rfl rfl ct1.2.2.2.2.2.1
  clear fld hall
  obtain ⟨k, e0, _, q0⟩ := DataW.trod_int ut3 h0
  obtain ⟨tx, e1, _, _⟩ := DataW.trod_string ut9 h1
  obtain ⟨mo, e2, _, _⟩ := DataW.trod_string ut9 h2
  obtain ⟨nu, e3, _, q3⟩ := DataW.trod_int ut2 h3
  obtain ⟨bi, e4, _, q4⟩ := DataW.trod_int ut22 h4
  obtain ⟨hi, e5, _, q5⟩ := DataW.trod_int ut22 h5
  obtain ⟨bp, bl, bc, e6, rb, bn, bcl, bbl⟩ := open_bytes h6 w6
  obtain rfl : c0 = .int .i64 k := List.cons.inj e0 |>.1
  obtain rfl : c1 = .string tx := List.cons.inj e1 |>.1
  obtain rfl : c2 = .string mo := List.cons.inj e2 |>.1
  obtain rfl : c3 = .int .i64 nu := List.cons.inj e3 |>.1
  obtain rfl : c4 = .int .u64 bi := List.cons.inj e4 |>.1
  obtain rfl : c5 = .int .u64 hi := List.cons.inj e5 |>.1
  obtain rfl : c6 = .slice bp bl.length bc := List.cons.inj e6 |>.1
  have hown : ∀ (kids : List (List UInt8 × Val)), kids.length ≤ 1125899906842624 →
      ReadsB W bp (Val.mk k tx.data.toList mo.data.toList nu bi hi bl kids).b ∧ ((bp = none → bc = 0) ∧ (Val.mk k tx.data.toList mo.data.toList nu bi hi bl kids).b.length ≤ bc) ∧ inI64 (Val.mk k tx.data.toList mo.data.toList nu bi hi bl kids).kind ∧ inI64 (Val.mk k tx.data.toList mo.data.toList nu bi hi bl kids).num ∧
      inU64 (Val.mk k tx.data.toList mo.data.toList nu bi hi bl kids).bits ∧ inU64 (Val.mk k tx.data.toList mo.data.toList nu bi hi bl kids).high ∧ (Val.mk k tx.data.toList mo.data.toList nu bi hi bl kids).b.length ≤ 1125899906842624 ∧ (Val.mk k tx.data.toList mo.data.toList nu bi hi bl kids).kids.length ≤ 1125899906842624 :=
    fun kids hk => ⟨rb, ⟨bn, bcl⟩, wf_i64 q0, wf_i64 q3, wf_u64 q4, wf_u64 q5, bbl, hk⟩
  rcases DataW.trod_slice ut24 h7 with ⟨e7, _⟩ | ⟨a, len, cap, elems, rest, n', hn', e7, hy7, hb, hl, hm, hlen, hel, _⟩
  · obtain rfl : c7 = .slice none 0 0 := List.cons.inj e7 |>.1
    refine ⟨.mk k tx.data.toList mo.data.toList nu bi hi bl [], bp, none, bc, 0, rfl, fun d => ?_⟩
    cases d with
    | zero => exact hown [] (by simp)
    | succ d => exact ⟨hown [] (by simp), fun i n y hi => by simp [Val.kids] at hi⟩
  · obtain rfl : c7 = .slice (some a) len cap := List.cons.inj e7 |>.1
    have hy71 : y7.1 = .slice (elems.map (·.1)) (rest.map (·.1)) := by rw [hy7]
    rw [hy71] at w7
    have hbig := w7 (((elems.map (·.1)).length + (rest.map (·.1)).length) * prog.bytesOf 46) (by simp [DataW.weights])
    rw [bt46, List.length_map, hlen] at hbig
    have hr : reachBytes = 140737488351232 := rfl
    have key : ∀ i, i < len → ∃ p : List UInt8 × Val, ∃ (bp' kp' : Option Addr) (bc' kc' : Nat), (∀ j v, (Value.string (mkS p.1) :: valCells p.2 bp' bc' kp' kc')[j]? = some v → W.cell? ((a.add (i * 9)).add j) = some v) ∧ ∀ d, Hangs d W p.2 bp' bc' kp' kc' := by
      intro i hi
      have g1 := hel i hi
      rw [List.getElem?_eq_getElem (by omega)] at g1
      obtain ⟨cs', g2, g3⟩ := Option.bind_eq_some_iff.1 g1
      rw [ct1.2.2.2.2.2.2.2.2] at g2
      obtain ⟨_, hl', hc'⟩ := World.cells?_some g2
      have hwe : ∀ m ∈ (elems[i]'(by omega)).1.weights prog 46, m ≤ reachBytes := fun m hm' => w7 m (by
        simp only [DataW.weights, ut24]
        refine List.mem_cons_of_mem _ (List.mem_append_left _ (weightsAll_mem' ?_ m hm'))
        exact List.mem_map.2 ⟨_, List.getElem_mem (by omega), rfl⟩)
      obtain ⟨fs', hu', hsz', hts', hos'⟩ := fields46
      obtain ⟨xs', n'', hfu', hx', hcl', hxl', hall'⟩ := DataW.trod_struct hu' g3
      rw [hx'] at hwe
      have fld : ∀ (i ti oi ci : Nat), ([9, 26] : List Nat)[i]? = some ti → ([0, 1] : List Nat)[i]? = some oi → prog.cellsOf ti = ci →
          ∃ y : DataW H × List MemPlace, DataW.trod enc prog W base sp held n'' ti ((cs'.drop oi).take ci) = some y ∧ ∀ m ∈ y.1.weights prog ti, m ≤ reachBytes :=
        fun i ti oi ci p1 p2 p3 => open_field hu' hts' hos' hxl' hall' hwe i p1 p2 p3
      obtain ⟨z0, k0, _⟩ := fld 0 9 0 1 rfl rfl ct1.2.1
      obtain ⟨z1, k1, v1⟩ := fld 1 26 1 8 rfl rfl ct1.2.2.2.2.2.2.2.1
      obtain ⟨nm, f0, _, _⟩ := DataW.trod_string ut9 k0
      obtain ⟨Y, bp', kp', bc', kc', f1, hY⟩ := ih n'' (by omega) _ _ k1 v1
      obtain ⟨c, r, ecs, hr8⟩ := len_succ hl'
      rw [ecs] at f0 f1 hc'
      have f0' : c = .string nm := List.cons.inj f0 |>.1
      have f1' : r = valCells Y bp' bc' kp' kc' := by
        have : (List.drop 1 (c :: r)).take 8 = r := by
          rw [List.drop_one, List.tail_cons, List.take_of_length_le (by omega)]
        rw [← f1]; exact this.symm
      refine ⟨(nm.data.toList, Y), bp', kp', bc', kc', fun j v hj => ?_, hY⟩
      have hj9 : j < 9 := (List.getElem?_eq_some_iff.1 hj).1
      rw [hc' j hj9, f0', f1']
      exact hj
    obtain ⟨kids, hkl, hkp⟩ := list_of_forall len key
    subst hkl
    refine ⟨.mk k tx.data.toList mo.data.toList nu bi hi bl kids, bp, some a, bc, cap, rfl, fun d => ?_⟩
    cases d with
    | zero => exact hown kids (by omega)
    | succ d =>
      refine ⟨hown kids (by omega), fun i n y hi => ?_⟩
      obtain ⟨bp', kp', bc', kc', h1, h2⟩ := hkp i (n, y) hi
      exact ⟨a, bp', bc', kp', kc', rfl, h1, h2 d⟩
end
end Go.Proofs.Tryz
set_option linter.unusedVariables false
set_option maxRecDepth 100000
namespace Go.Proofs.Tryz
open Go.Vc
def VC47 (out : Ptr) (aa ab : Nat) (nx : Int) (w : World) (R : RR) : Prop :=
 ∃ x7 : Int, IntKind.u8.wrap nx = x7 ∧
 (0 : Int) ≤ 8 ∧ ∃ x9 : Int, Int.fdiv nx (2 ^ 8) = x9 ∧
 ∃ x10 : Int, IntKind.u8.wrap x9 = x10 ∧
 (0 : Int) ≤ 16 ∧ ∃ x12 : Int, Int.fdiv nx (2 ^ 16) = x12 ∧
 ∃ x13 : Int, IntKind.u8.wrap x12 = x13 ∧
 (0 : Int) ≤ 24 ∧ ∃ x15 : Int, Int.fdiv nx (2 ^ 24) = x15 ∧
 ∃ x16 : Int, IntKind.u8.wrap x15 = x16 ∧
 ∀ w1, w1 = w.alloc (.cells ⟨[.int .u8 x7, .int .u8 x10, .int .u8 x13, .int .u8 x16]⟩ 5) →
 ∃ (x18 : Ptr) (ac ad : Nat), ∃ w2, BuiltinOk prog .append #[23, 23] 23 [false, false] [.slice out aa ab, .slice (some (⟨w.heap.size, 0, none⟩)) 4 4] w1 (.slice x18 ac ad) w2 ∧
 R (.slice x18 ac ad) w2
def an47 : Ann :=
 .k .z
 (.k (.t [.q, .q, .q, .q, .q, .q, .q, .q, .q, .q, .q, .q, .q, .s [.slice]])
 .l)
theorem c47 (out : Ptr) (aa ab : Nat) (nx : Int) (w : World) (R : RR) (hvc : VC47 out aa ab nx w R) : CR 47 [.slice out aa ab, .int .i64 nx] w R :=
 vcc (fn := f47) (ann := an47) hvc (by kernel_rfl) (by kernel_rfl)
def VC49 (out : Ptr) (ab ac : Nat) (nx : Int) (w : World) (R : RR) : Prop :=
 ∃ Ix : Nat → Ptr → Nat → Nat → Int → World → Prop, (∃ m_2, Ix m_2 out ab ac 0 w) ∧
 ∀ m, ∀ (aa : Ptr) (ad ae : Nat), ∀ i : Int, ∀ w1, Ix m aa ad ae i w1 →
 (decide (i < 64) = true →
 (0 : Int) ≤ i ∧ ∃ x13 : Int, Int.fdiv nx (2 ^ (min i.toNat 64)) = x13 ∧
 ∃ x14 : Int, IntKind.u8.wrap x13 = x14 ∧
 ∀ w2, w2 = w1.alloc (.cells ⟨[.int .u8 x14]⟩ 5) →
 ∃ (x16 : Ptr) (af ag : Nat), ∃ w3, BuiltinOk prog .append #[23, 23] 23 [false, false] [.slice aa ad ae, .slice (some (⟨w1.heap.size, 0, none⟩)) 1 1] w2 (.slice x16 af ag) w3 ∧
 ∃ x9 : Int, IntKind.i64.wrap (i + 8) = x9 ∧
 ∃ m_1, m_1 < m ∧ Ix m_1 x16 af ag x9 w3) ∧ (decide (i < 64) = false →
 R (.slice aa ad ae) w1)
def an49 : Ann :=
 .k .z
 (.k (.k .z
 (.block (.loop [(0, .slice), (5, .int .i64)] [1] (.k (.k .z
 (.cond 1 2 .l .l))
 (.k (.block (.t [.q, .q, .q, .q, .q, .q, .s [.slice]]))
 .z)))))
 .zl)
theorem c49 (out : Ptr) (aa ab : Nat) (nx : Int) (w : World) (R : RR) (hvc : VC49 out aa ab nx w R) : CR 49 [.slice out aa ab, .int .u64 nx] w R :=
 vcc (fn := f49) (ann := an49) hvc (by kernel_rfl) (by kernel_rfl)
def VC50 (out : Ptr) (aa ab : Nat) (s : Bs) (w : World) (R : RR) : Prop :=
 ∃ x8 : Int, IntKind.i64.wrap ((s.length : Int) + 1) = x8 ∧
 Calls prog 47 ⟨[.slice out aa ab, .int .i64 x8]⟩ w fun e w1 => ∃ (x9 : Ptr) (ac ad : Nat), e = .returned (.slice x9 ac ad) ∧
 ∃ (x12 : Ptr) (ae af : Nat), ∃ w2, BuiltinOk prog .append #[23, 9] 23 [false, false] [.slice x9 ac ad, .string (mkS s)] w1 (.slice x12 ae af) w2 ∧
 ∀ w3, w3 = w2.alloc (.cells ⟨[.int .u8 0]⟩ 5) →
 ∃ (x15 : Ptr) (ag ah : Nat), ∃ w4, BuiltinOk prog .append #[23, 23] 23 [false, false] [.slice x12 ae af, .slice (some (⟨w2.heap.size, 0, none⟩)) 1 1] w3 (.slice x15 ag ah) w4 ∧
 R (.slice x15 ag ah) w4
def an50 : Ann :=
 .k .z
 (.k (.t [.q, .q, .q, .q, .s [.slice]])
 (.k (.t [.q, .q, .s [.slice]])
 (.k (.t [.q, .q, .s [.slice]])
 .l)))
theorem c50 (out : Ptr) (aa ab : Nat) (s : Bs) (w : World) (R : RR) (hvc : VC50 out aa ab s w R) : CR 50 [.slice out aa ab, .string (mkS s)] w R :=
 vcc (fn := f50) (ann := an50) hvc (by kernel_rfl) (by kernel_rfl)
def VC80 (aa : Int) (ab : Bs) (w : World) (R : RR) : Prop :=
 ∃ x7 : Int, IntKind.u8.wrap aa = x7 ∧
 ∀ w1, w1 = w.alloc (.cells ⟨[.int .u8 x7]⟩ 5) →
 ∃ (x10 : Ptr) (ac ad : Nat), ∃ w2, BuiltinOk prog .append #[23, 9] 23 [false, false] [.slice (some (⟨w.heap.size, 0, none⟩)) 1 1, .string (mkS ab)] w1 (.slice x10 ac ad) w2 ∧
 ∀ w3, w3 = w2.alloc (.cells ⟨[.int .u8 0]⟩ 5) →
 ∃ (x13 : Ptr) (ae af : Nat), ∃ w4, BuiltinOk prog .append #[23, 23] 23 [false, false] [.slice x10 ac ad, .slice (some (⟨w2.heap.size, 0, none⟩)) 1 1] w3 (.slice x13 ae af) w4 ∧
 R (.slice x13 ae af) w4
def an80 : Ann :=
 .k .z
 (.k (.t [.q, .q, .q, .q, .s [.slice]])
 (.k (.t [.q, .q, .s [.slice]])
 .l))
theorem c80 (aa : Int) (ab : Bs) (w : World) (R : RR) (hvc : VC80 aa ab w R) : CR 80 [.int .i64 aa, .string (mkS ab)] w R :=
 vcc (fn := f80) (ann := an80) hvc (by kernel_rfl) (by kernel_rfl)
def VC14 (ak : Ptr) (al am : Nat) (w : World) (R : RR) : Prop :=
 ∃ Ix : Nat → Ptr → Nat → Nat → Int → World → Prop, (∃ m_2, Ix m_2 none 0 0 0 w) ∧
 ∀ m, ∀ (ah : Ptr) (ao ap : Nat), ∀ i : Int, ∀ w1, Ix m ah ao ap i w1 →
 (decide (i < (al : Int)) = true →
 ((0 : Int) ≤ i ∧ i < (al : Int)) ∧ ∃ aa : Addr, ak = some aa ∧
 ∃ x16 : Bs, ∃ ab : Int, ∃ ac ad : Bs, ∃ ae af ag : Int, ∃ (ai : Ptr) (aq ar : Nat), ∃ (aj : Ptr) (au av : Nat), LoadsRow prog 46 w1 (aa.add (i.toNat * 9)) [.string (mkS x16), .int .i64 ab, .string (mkS ac), .string (mkS ad), .int .i64 ae, .int .u64 af, .int .u64 ag, .slice ai aq ar, .slice aj au av] ∧
 Calls prog 46 ⟨[.agg ⟨[.string (mkS x16), .int .i64 ab, .string (mkS ac), .string (mkS ad), .int .i64 ae, .int .u64 af, .int .u64 ag, .slice ai aq ar, .slice aj au av]⟩]⟩ w1 fun e w2 => ∃ (x17 : Ptr) (aw ax : Nat), e = .returned (.slice x17 aw ax) ∧
 ∃ (x18 : Ptr) (ay az : Nat), ∃ w3, BuiltinOk prog .append #[23, 23] 23 [false, false] [.slice ah ao ap, .slice x17 aw ax] w2 (.slice x18 ay az) w3 ∧
 ∃ x11 : Int, IntKind.i64.wrap (i + 1) = x11 ∧
 ∃ m_1, m_1 < m ∧ Ix m_1 x18 ay az x11 w3) ∧ (decide (i < (al : Int)) = false →
 ∃ x21 : Int, IntKind.i64.wrap ((ao : Int) + 5) = x21 ∧
 Calls prog 47 ⟨[.slice none 0 0, .int .i64 x21]⟩ w1 fun e w4 => ∃ (x22 : Ptr) (ba bb : Nat), e = .returned (.slice x22 ba bb) ∧
 ∃ (x25 : Ptr) (bc bd : Nat), ∃ w5, BuiltinOk prog .append #[23, 23] 23 [false, false] [.slice x22 ba bb, .slice ah ao ap] w4 (.slice x25 bc bd) w5 ∧
 ∀ w6, w6 = w5.alloc (.cells ⟨[.int .u8 0]⟩ 5) →
 ∃ (x28 : Ptr) (be bf : Nat), ∃ w7, BuiltinOk prog .append #[23, 23] 23 [false, false] [.slice x25 bc bd, .slice (some (⟨w5.heap.size, 0, none⟩)) 1 1] w6 (.slice x28 be bf) w7 ∧
 R (.slice x28 be bf) w7)
def an14 : Ann :=
 .k .z
 (.k .z
 (.k (.k .z
 (.block (.loop [(3, .slice), (4, .int .i64)] [0] (.k (.k .z
 (.cond 1 2 .l .l))
 (.k (.block (.t [.q, .q, .q, .s [], .s [.str, .int .i64, .str, .str, .int .i64, .int .u64, .int .u64, .slice, .slice], .s [.slice], .s [.slice]]))
 .z)))))
 (.k (.t [.q, .q, .q, .s [.slice]])
 (.k (.t [.q, .q, .s [.slice]])
 (.k (.t [.q, .q, .s [.slice]])
 .l)))))
theorem c14 (aa : Ptr) (ab ac : Nat) (w : World) (R : RR) (hvc : VC14 aa ab ac w R) : CR 14 [.slice aa ab ac] w R :=
 vcc (fn := f14) (ann := an14) hvc (by kernel_rfl) (by kernel_rfl)
def VC46 (ah : Bs) (ai : Int) (aj : Bs) (ak : Bs) (eVN : Int) (al : Int) (am : Int) (eVB : Ptr) (ao ap : Nat) (aq : Ptr) (ar au : Nat) (w : World) (R : RR) : Prop :=
 ∀ w1, w1 = w.alloc (.cells ⟨[.string (mkS ah), .int .i64 ai, .string (mkS aj), .string (mkS ak), .int .i64 eVN, .int .u64 al, .int .u64 am, .slice eVB ao ap, .slice aq ar au]⟩ 46) →
 ∃ f : List (Addr × Value), Kept w1 f ∧
 ∃ x5 : Int, (⟨w.heap.size, 1, none⟩, .int .i64 x5) ∈ f ∧
 ∃ x7 : Bs, (⟨w.heap.size, 0, none⟩, .string (mkS x7)) ∈ f ∧
 ∃ x10 : Int, ∃ aa ab : Bs, ∃ ac ad ae : Int, ∃ (af : Ptr) (av aw : Nat), ∃ (ag : Ptr) (ax ay : Nat), (cellsOf' prog 26 = some ([.int .i64 x10, .string (mkS aa), .string (mkS ab), .int .i64 ac, .int .u64 ad, .int .u64 ae, .slice af av aw, .slice ag ax ay] : List Value).length ∧ ∀ i v, ([.int .i64 x10, .string (mkS aa), .string (mkS ab), .int .i64 ac, .int .u64 ad, .int .u64 ae, .slice af av aw, .slice ag ax ay] : List Value)[i]? = some v → ((⟨w.heap.size, 1, none⟩ : Addr).add i, v) ∈ f) ∧
 Calls prog 80 ⟨[.int .i64 x5, .string (mkS x7)]⟩ w1.drew fun e w2 => ∃ (x8 : Ptr) (az ba : Nat), e = .returned (.slice x8 az ba) ∧
 Kept w2 f ∧ Calls prog 17 ⟨[.agg ⟨[.int .i64 x10, .string (mkS aa), .string (mkS ab), .int .i64 ac, .int .u64 ad, .int .u64 ae, .slice af av aw, .slice ag ax ay]⟩]⟩ w2 fun e w3 => ∃ (x11 : Ptr) (bb bc : Nat), e = .returned (.slice x11 bb bc) ∧
 ∃ (x12 : Ptr) (bd be : Nat), ∃ w4, BuiltinOk prog .append #[23, 23] 23 [false, false] [.slice x8 az ba, .slice x11 bb bc] w3 (.slice x12 bd be) w4 ∧
 R (.slice x12 bd be) w4
def an46 : Ann :=
 .k .z
 (.k (.reg (.held [8, 9] (.take 0 (.q) (.take 1 (.q) (.take 2 (.s [.int .i64]) (.take 3 (.q) (.take 4 (.s [.str]) (.take 6 (.q) (.take 7 (.s [.int .i64, .str, .str, .int .i64, .int .u64, .int .u64, .slice, .slice]) (.run 5 (.s [.slice]) (.run 8 (.s [.slice]) (.run 9 (.s [.slice]) (.take 10 (.q) .done) .done) .done) .done))))))))))
 .l)
theorem c46 (aa : Bs) (ab : Int) (ac : Bs) (ad : Bs) (eVN : Int) (ae : Int) (af : Int) (eVB : Ptr) (ag ah : Nat) (ai : Ptr) (aj ak : Nat) (w : World) (R : RR) (hvc : VC46 aa ab ac ad eVN ae af eVB ag ah ai aj ak w R) : CR 46 [.agg ⟨[.string (mkS aa), .int .i64 ab, .string (mkS ac), .string (mkS ad), .int .i64 eVN, .int .u64 ae, .int .u64 af, .slice eVB ag ah, .slice ai aj ak]⟩] w R :=
 vcc (fn := f46) (ann := an46) hvc (by kernel_rfl) (by kernel_rfl)
def VC17 (bc : Int) (bd : Bs) (be : Bs) (vN : Int) (bf : Int) (bg : Int) (vB : Ptr) (bh bi : Nat) (bj : Ptr) (bk bl : Nat) (w : World) (R : RR) : Prop :=
 ∀ w1, w1 = w.alloc (.cells ⟨[.int .i64 bc, .string (mkS bd), .string (mkS be), .int .i64 vN, .int .u64 bf, .int .u64 bg, .slice vB bh bi, .slice bj bk bl]⟩ 26) →
 ∃ x8 : Int, w1.cell? ⟨w.heap.size, 0, none⟩ = some (.int .i64 x8) ∧
 ∀ Kx : Bool → World → Prop, (∀ x9 : Bool, ∀ w2,
 ((x9 = true →
 ∃ x14 : Int, w2.cell? ⟨w.heap.size, 4, none⟩ = some (.int .u64 x14) ∧
 Calls prog 49 ⟨[.slice none 0 0, .int .u64 x14]⟩ w2 fun e w3 => ∃ (x15 : Ptr) (bm bn : Nat), e = .returned (.slice x15 bm bn) ∧
 R (.slice x15 bm bn) w3) ∧ (x9 = false →
 ∀ aa : Bool → World → Prop, (∀ x16 : Bool, ∀ w4,
 ((x16 = true →
 ∃ x22 : Bs, w4.cell? ⟨w.heap.size, 1, none⟩ = some (.string (mkS x22)) ∧
 Calls prog 50 ⟨[.slice none 0 0, .string (mkS x22)]⟩ w4 fun e w5 => ∃ (x23 : Ptr) (bo bp : Nat), e = .returned (.slice x23 bo bp) ∧
 R (.slice x23 bo bp) w5) ∧ (x16 = false →
 ∀ ab : Bool → World → Prop, (∀ x24 : Bool, ∀ w6,
 ((x24 = true →
 ∃ (x28 : Ptr) (bq br : Nat), w6.cell? ⟨w.heap.size, 7, none⟩ = some (.slice x28 bq br) ∧
 Calls prog 14 ⟨[.slice x28 bq br]⟩ w6 fun e w7 => ∃ (x29 : Ptr) (bs bt : Nat), e = .returned (.slice x29 bs bt) ∧
 R (.slice x29 bs bt) w7) ∧ (x24 = false →
 (decide (x8 = 5) = true →
 ∃ (x33 : Ptr) (bu bv : Nat), w6.cell? ⟨w.heap.size, 6, none⟩ = some (.slice x33 bu bv) ∧
 ∃ x36 : Int, w6.cell? ⟨w.heap.size, 3, none⟩ = some (.int .i64 x36) ∧
 (decide (x36 = 2) = true →
 ∃ x40 : Int, IntKind.i64.wrap ((bu : Int) + 4) = x40 ∧
 Calls prog 47 ⟨[.slice none 0 0, .int .i64 x40]⟩ w6 fun e w8 => ∃ (x41 : Ptr) (bw bx : Nat), e = .returned (.slice x41 bw bx) ∧
 ∀ w9, w9 = w8.alloc (.cells ⟨[.int .u8 2]⟩ 5) →
 ∃ (x44 : Ptr) (bz ca : Nat), ∃ w10, BuiltinOk prog .append #[23, 23] 23 [false, false] [.slice x41 bw bx, .slice (some (⟨w8.heap.size, 0, none⟩)) 1 1] w9 (.slice x44 bz ca) w10 ∧
 Calls prog 47 ⟨[.slice x44 bz ca, .int .i64 (bu : Int)]⟩ w10 fun e w11 => ∃ (x47 : Ptr) (cb cc : Nat), e = .returned (.slice x47 cb cc) ∧
 ∃ (x59 : Ptr) (cd ce : Nat), w11.cell? ⟨w.heap.size, 6, none⟩ = some (.slice x59 cd ce) ∧
 ∃ (x60 : Ptr) (cf cg : Nat), ∃ w12, BuiltinOk prog .append #[23, 23] 23 [false, false] [.slice x47 cb cc, .slice x59 cd ce] w11 (.slice x60 cf cg) w12 ∧
 R (.slice x60 cf cg) w12) ∧ (decide (x36 = 2) = false →
 Calls prog 47 ⟨[.slice none 0 0, .int .i64 (bu : Int)]⟩ w6 fun e w13 => ∃ (x50 : Ptr) (ch ci : Nat), e = .returned (.slice x50 ch ci) ∧
 ∃ x53 : Int, w13.cell? ⟨w.heap.size, 3, none⟩ = some (.int .i64 x53) ∧
 ∃ x54 : Int, IntKind.u8.wrap x53 = x54 ∧
 ∀ w14, w14 = w13.alloc (.cells ⟨[.int .u8 x54]⟩ 5) →
 ∃ (x56 : Ptr) (cj ck : Nat), ∃ w15, BuiltinOk prog .append #[23, 23] 23 [false, false] [.slice x50 ch ci, .slice (some (⟨w13.heap.size, 0, none⟩)) 1 1] w14 (.slice x56 cj ck) w15 ∧
 ∃ (ak : Ptr) (cl cm : Nat), w15.cell? ⟨w.heap.size, 6, none⟩ = some (.slice ak cl cm) ∧
 ∃ (al : Ptr) (cn co : Nat), ∃ w16, BuiltinOk prog .append #[23, 23] 23 [false, false] [.slice x56 cj ck, .slice ak cl cm] w15 (.slice al cn co) w16 ∧
 R (.slice al cn co) w16)) ∧ (decide (x8 = 5) = false →
 (decide (x8 = 7) = true →
 ∃ (x65 : Ptr) (cp cq : Nat), w6.cell? ⟨w.heap.size, 6, none⟩ = some (.slice x65 cp cq) ∧
 ∃ (x66 : Ptr) (cr cs : Nat), ∃ w17, BuiltinOk prog .append #[23, 23] 23 [false, false] [.slice none 0 0, .slice x65 cp cq] w6 (.slice x66 cr cs) w17 ∧
 R (.slice x66 cr cs) w17) ∧ (decide (x8 = 7) = false →
 (decide (x8 = 8) = true →
 ∃ x71 : Int, w6.cell? ⟨w.heap.size, 3, none⟩ = some (.int .i64 x71) ∧
 ∃ x72 : Int, IntKind.u8.wrap x71 = x72 ∧
 ∀ w18, w18 = w6.alloc (.cells ⟨[.int .u8 x72]⟩ 5) →
 ∃ (x74 : Ptr) (ct cu : Nat), ∃ w19, BuiltinOk prog .append #[23, 23] 23 [false, false] [.slice none 0 0, .slice (some (⟨w6.heap.size, 0, none⟩)) 1 1] w18 (.slice x74 ct cu) w19 ∧
 R (.slice x74 ct cu) w19) ∧ (decide (x8 = 8) = false →
 ∀ ac : Bool → World → Prop, (∀ x75 : Bool, ∀ w20,
 ((x75 = true →
 ∃ x80 : Int, w20.cell? ⟨w.heap.size, 3, none⟩ = some (.int .i64 x80) ∧
 ∃ x81 : Int, IntKind.u64.wrap x80 = x81 ∧
 Calls prog 49 ⟨[.slice none 0 0, .int .u64 x81]⟩ w20 fun e w21 => ∃ (x82 : Ptr) (cv cw : Nat), e = .returned (.slice x82 cv cw) ∧
 R (.slice x82 cv cw) w21) ∧ (x75 = false →
 (decide (x8 = 16) = true →
 ∃ x87 : Int, w20.cell? ⟨w.heap.size, 3, none⟩ = some (.int .i64 x87) ∧
 Calls prog 47 ⟨[.slice none 0 0, .int .i64 x87]⟩ w20 fun e w22 => ∃ (x88 : Ptr) (cx cy : Nat), e = .returned (.slice x88 cx cy) ∧
 R (.slice x88 cx cy) w22) ∧ (decide (x8 = 16) = false →
 (decide (x8 = 11) = true →
 ∃ x93 : Bs, w20.cell? ⟨w.heap.size, 1, none⟩ = some (.string (mkS x93)) ∧
 ∃ (x94 : Ptr) (cz da : Nat), ∃ w23, BuiltinOk prog .append #[23, 9] 23 [false, false] [.slice none 0 0, .string (mkS x93)] w20 (.slice x94 cz da) w23 ∧
 ∀ w24, w24 = w23.alloc (.cells ⟨[.int .u8 0]⟩ 5) →
 ∃ (x97 : Ptr) (db dc : Nat), ∃ w25, BuiltinOk prog .append #[23, 23] 23 [false, false] [.slice x94 cz da, .slice (some (⟨w23.heap.size, 0, none⟩)) 1 1] w24 (.slice x97 db dc) w25 ∧
 ∃ ad : Bs, w25.cell? ⟨w.heap.size, 2, none⟩ = some (.string (mkS ad)) ∧
 ∃ (am : Ptr) (dd de : Nat), ∃ w26, BuiltinOk prog .append #[23, 9] 23 [false, false] [.slice x97 db dc, .string (mkS ad)] w25 (.slice am dd de) w26 ∧
 ∀ w27, w27 = w26.alloc (.cells ⟨[.int .u8 0]⟩ 5) →
 ∃ (ao : Ptr) (df dg : Nat), ∃ w28, BuiltinOk prog .append #[23, 23] 23 [false, false] [.slice am dd de, .slice (some (⟨w26.heap.size, 0, none⟩)) 1 1] w27 (.slice ao df dg) w28 ∧
 R (.slice ao df dg) w28) ∧ (decide (x8 = 11) = false →
 (decide (x8 = 12) = true →
 ∃ ae : Bs, w20.cell? ⟨w.heap.size, 1, none⟩ = some (.string (mkS ae)) ∧
 Calls prog 50 ⟨[.slice none 0 0, .string (mkS ae)]⟩ w20 fun e w29 => ∃ (ap : Ptr) (dh di : Nat), e = .returned (.slice ap dh di) ∧
 ∃ (aq : Ptr) (dj dk : Nat), w29.cell? ⟨w.heap.size, 6, none⟩ = some (.slice aq dj dk) ∧
 ∃ (ar : Ptr) (dl dm : Nat), ∃ w30, BuiltinOk prog .append #[23, 23] 23 [false, false] [.slice ap dh di, .slice aq dj dk] w29 (.slice ar dl dm) w30 ∧
 R (.slice ar dl dm) w30) ∧ (decide (x8 = 12) = false →
 (decide (x8 = 15) = true →
 ∃ af : Bs, w20.cell? ⟨w.heap.size, 1, none⟩ = some (.string (mkS af)) ∧
 Calls prog 50 ⟨[.slice none 0 0, .string (mkS af)]⟩ w20 fun e w31 => ∃ (au : Ptr) (dn dp : Nat), e = .returned (.slice au dn dp) ∧
 ∃ (av : Ptr) (dq dr : Nat), w31.cell? ⟨w.heap.size, 7, none⟩ = some (.slice av dq dr) ∧
 Calls prog 14 ⟨[.slice av dq dr]⟩ w31 fun e w32 => ∃ (aw : Ptr) (ds dt : Nat), e = .returned (.slice aw ds dt) ∧
 ∃ ag : Int, IntKind.i64.wrap (4 + (dn : Int)) = ag ∧
 ∃ ah : Int, IntKind.i64.wrap (ag + (ds : Int)) = ah ∧
 Calls prog 47 ⟨[.slice none 0 0, .int .i64 ah]⟩ w32 fun e w33 => ∃ (ax : Ptr) (du dv : Nat), e = .returned (.slice ax du dv) ∧
 ∃ (ay : Ptr) (dw dx : Nat), ∃ w34, BuiltinOk prog .append #[23, 23] 23 [false, false] [.slice ax du dv, .slice au dn dp] w33 (.slice ay dw dx) w34 ∧
 ∃ (az : Ptr) (dy dz : Nat), ∃ w35, BuiltinOk prog .append #[23, 23] 23 [false, false] [.slice ay dw dx, .slice aw ds dt] w34 (.slice az dy dz) w35 ∧
 R (.slice az dy dz) w35) ∧ (decide (x8 = 15) = false →
 (decide (x8 = 19) = true →
 ∃ ai : Int, w20.cell? ⟨w.heap.size, 4, none⟩ = some (.int .u64 ai) ∧
 Calls prog 49 ⟨[.slice none 0 0, .int .u64 ai]⟩ w20 fun e w36 => ∃ (ba : Ptr) (ea eb : Nat), e = .returned (.slice ba ea eb) ∧
 ∃ aj : Int, w36.cell? ⟨w.heap.size, 5, none⟩ = some (.int .u64 aj) ∧
 Calls prog 49 ⟨[.slice ba ea eb, .int .u64 aj]⟩ w36 fun e w37 => ∃ (bb : Ptr) (ec ed : Nat), e = .returned (.slice bb ec ed) ∧
 R (.slice bb ec ed) w37) ∧ (decide (x8 = 19) = false →
 R (.slice none 0 0) w20))))))) → ac x75 w20) →
 (decide (x8 = 9) = true →
 ac (decide (x8 = 9)) w6) ∧ (decide (x8 = 9) = false →
 ac (decide (x8 = 18)) w6)))))) → ab x24 w6) →
 (decide (x8 = 3) = true →
 ab (decide (x8 = 3)) w4) ∧ (decide (x8 = 3) = false →
 ab (decide (x8 = 4)) w4))) → aa x16 w4) →
 (decide (x8 = 2) = true →
 aa (decide (x8 = 2)) w2) ∧ (decide (x8 = 2) = false →
 (decide (x8 = 13) = true →
 aa (decide (x8 = 13)) w2) ∧ (decide (x8 = 13) = false →
 aa (decide (x8 = 14)) w2)))) → Kx x9 w2) →
 (decide (x8 = 1) = true →
 Kx (decide (x8 = 1)) w1) ∧ (decide (x8 = 1) = false →
 Kx (decide (x8 = 17)) w1)
def an17 : Ann :=
 .k .z
 (.k .z
 (.k (.k (.t [.q, .s [.int .i64]])
 (.block (.cut [(9, .bool)] [1, 3, 8] (.k .z
 (.cond 35 36 .l .z))
 (.cond 1 2 (.t [.q, .q, .s [.int .u64], .s [.slice]]) (.cut [(16, .bool)] [1, 3, 8] (.k .z
 (.cond 31 32 .l (.k .z
 (.cond 33 34 .l .z))))
 (.cond 3 4 (.t [.q, .q, .s [.str], .s [.slice]]) (.cut [(24, .bool)] [1, 3, 8] (.k .z
 (.cond 29 30 .l .z))
 (.cond 5 6 (.t [.q, .s [.slice], .s [.slice]]) (.k .z
 (.cond 7 8 (.k (.t [.q, .s [.slice]])
 (.k (.k (.t [.q, .s [.int .i64]])
 (.cond 9 10 (.k (.t [.q, .q, .q, .s [.slice]])
 (.k (.t [.q, .q, .s [.slice]])
 (.t [.q, .q, .s [.slice]]))) (.k (.t [.q, .q, .s [.slice]])
 (.t [.q, .q, .s [.int .i64], .q, .q, .s [.slice]]))))
 (.t [.q, .q, .s [.slice], .s [.slice]]))) (.k .z
 (.cond 11 12 (.t [.q, .q, .s [.slice], .s [.slice]]) (.k .z
 (.cond 13 14 (.t [.q, .q, .s [.int .i64], .q, .q, .s [.slice]]) (.cut [(75, .bool)] [1, 3, 8] (.k .z
 (.cond 27 28 .l .z))
 (.cond 15 16 (.t [.q, .q, .s [.int .i64], .q, .s [.slice]]) (.k .z
 (.cond 17 18 (.t [.q, .q, .s [.int .i64], .s [.slice]]) (.k .z
 (.cond 19 20 (.k (.t [.q, .q, .s [.str], .s [.slice]])
 (.k (.t [.q, .q, .s [.slice]])
 (.k (.t [.q, .q, .s [.str], .s [.slice]])
 (.t [.q, .q, .s [.slice]])))) (.k .z
 (.cond 21 22 (.k (.t [.q, .q, .s [.str], .s [.slice]])
 (.t [.q, .q, .s [.slice], .s [.slice]])) (.k .z
 (.cond 23 24 (.k (.t [.q, .s [.str], .s [.slice]])
 (.k (.t [.q, .s [.slice], .s [.slice]])
 (.k (.t [.q, .q, .q, .q, .q, .q, .q, .s [.slice]])
 (.k (.t [.q, .q, .s [.slice]])
 (.t [.q, .q, .s [.slice]]))))) (.k .z
 (.cond 25 26 (.k (.t [.q, .q, .s [.int .u64], .s [.slice]])
 (.t [.q, .q, .s [.int .u64], .s [.slice]])) .l))))))))))))))))))))))))))
 .zl))
theorem c17 (aa : Int) (ab : Bs) (ac : Bs) (vN : Int) (ad : Int) (ae : Int) (vB : Ptr) (af ag : Nat) (ah : Ptr) (ai aj : Nat) (w : World) (R : RR) (hvc : VC17 aa ab ac vN ad ae vB af ag ah ai aj w R) : CR 17 [.agg ⟨[.int .i64 aa, .string (mkS ab), .string (mkS ac), .int .i64 vN, .int .u64 ad, .int .u64 ae, .slice vB af ag, .slice ah ai aj]⟩] w R :=
 vcc (fn := f17) (ann := an17) hvc (by kernel_rfl) (by kernel_rfl)
end Go.Proofs.Tryz
set_option linter.unusedVariables false
namespace Go.Proofs.Tryz
open Go.Vc Go.RowKit
def b8 (n : Int) : UInt8 := UInt8.ofNat (n % 256).toNat
theorem b8_toNat (n : Int) : ((b8 n).toNat : Int) = n % 256 := by
  unfold b8
  have h1 : 0 ≤ n % 256 := Int.emod_nonneg _ (by decide)
  have h2 : n % 256 < 256 := Int.emod_lt_of_pos _ (by decide)
  rw [UInt8.toNat_ofNat_of_lt' (by show (n % 256).toNat < 256; omega)]
  omega
theorem u8_wrap (n : Int) : IntKind.u8.wrap n = ((b8 n).toNat : Int) := by
  rw [b8_toNat]; rfl
theorem fdiv_pow (n : Int) (k : Nat) : Int.fdiv n (2 ^ k) = n / 2 ^ k := Int.fdiv_eq_ediv_of_nonneg _ (Int.le_of_lt (Int.pow_pos (by decide)))
def le32 (n : Int) : List UInt8 := [b8 n, b8 (n / 2 ^ 8), b8 (n / 2 ^ 16), b8 (n / 2 ^ 24)]
def le64 (n : Int) : List UInt8 := (List.range 8).map fun i => b8 (n / 2 ^ (8 * i))
theorem le32_len (n : Int) : (le32 n).length = 4 := rfl
theorem le64_len (n : Int) : (le64 n).length = 8 := by simp [le64]
def docText (s : List UInt8) : List UInt8 := le32 ((s.length : Int) + 1) ++ s ++ [0]
theorem Own.weaken {B B' : Nat} {w : World} {p : Option Addr} {n c : Nat} {l : List UInt8} (h : Own B w p n c l) (hB : B' ≤ B) : Own B' w p n c l :=
  ⟨⟨h.1.1, h.1.2.imp id fun ⟨g, cap, cur, hv, hb, r⟩ => ⟨g, cap, cur, hv, Nat.le_trans hB hb, r⟩⟩, h.2⟩
def Adds (k : Nat) (args : List Value) (B : Nat) (w : World) (l : List UInt8) : Prop :=
  Calls prog k ⟨args⟩ w fun e w' => ∃ p n c, e = .returned (.slice p n c) ∧ Own B w' p n c l ∧ Gr B w w'
theorem Adds.of {k : Nat} {args : List Value} {B : Nat} {w : World} {l : List UInt8} (h : Calls prog k ⟨args⟩ w fun e w' => ∃ u, e = .returned u ∧ (∃ p n c, u = .slice p n c ∧ Own B w' p n c l ∧ Gr B w w')) : Adds k args B w l :=
  Calls.mono h fun e w' ⟨u, he, p, n, c, hu, h⟩ => ⟨p, n, c, by rw [he, hu], h⟩
theorem Adds.go {k : Nat} {args : List Value} {B : Nat} {w : World} {l : List UInt8} (h : Adds k args B w l) {Q : Ending → World → Prop}
    (hq : ∀ w' p n c, Own B w' p n c l → Gr B w w' → Q (.returned (.slice p n c)) w') : Calls prog k ⟨args⟩ w Q :=
  Calls.mono h fun e w' ⟨p, n, c, he, h1, h2⟩ => by rw [he]; exact hq w' p n c h1 h2
section
variable {B : Nat} {w : World} {p : Option Addr} {n c : Nat} {l : List UInt8}
theorem ret47 (h : Own B w p n c l) (hB : B ≤ w.heap.size) (nx : Int) (hl : l.length ≤ 1000000000) : Adds 47 [.slice p n c, .int .i64 nx] B w (l ++ le32 nx) := by
  refine Adds.of (c47 _ _ _ _ w _ ?_)
  unfold VC47
  refine ⟨_, u8_wrap nx, by decide, _, fdiv_pow nx 8, _, u8_wrap _, by decide, _, fdiv_pow nx 16, _, u8_wrap _, by decide, _, fdiv_pow nx 24, _, u8_wrap _, fun w1 hw1 => ?_⟩
  obtain ⟨p', n', c', w2, hr, ho, hg⟩ := append_litT h hB hw1 (bs := le32 nx) rfl rfl (by rw [le32_len]; omega) [false, false]
  exact ⟨p', n', c', w2, hr, p', n', c', rfl, ho, hg⟩
theorem ret49 (h : Own B w p n c l) (hB : B ≤ w.heap.size) (nx : Int) (hl : l.length ≤ 1000000000) : Adds 49 [.slice p n c, .int .u64 nx] B w (l ++ le64 nx) := by
  refine Adds.of (c49 _ _ _ _ w _ ?_)
  unfold VC49
  refine ⟨fun m p1 n1 c1 i w1 => Gr B w w1 ∧ ∃ k : Nat, i = (8 * k : Nat) ∧ k ≤ 8 ∧ m = 8 - k ∧ Own B w1 p1 n1 c1 (l ++ (le64 nx).take k), ⟨8, Gr.refl B w, 0, rfl, by omega, rfl, by simpa using h⟩, ?_⟩
  rintro m p1 n1 c1 i w1 ⟨hg1, k, rfl, hk, rfl, ho1⟩
  refine ⟨fun hlt => ?_, fun hge => ?_⟩
  · have hlt : k < 8 := by have := of_decide_eq_true hlt; omega
    refine ⟨by omega, _, fdiv_pow nx _, _, u8_wrap _, fun w2 hw2 => ?_⟩
    have hmin : min (((8 * k : Nat) : Int)).toNat 64 = 8 * k := by omega
    rw [hmin] at hw2
    have hB1 : B ≤ w1.heap.size := Nat.le_trans hB hg1.size
    obtain ⟨p', n', c', w3, hr, ho, hg⟩ := append_litT ho1 hB1 hw2 (bs := [b8 (nx / 2 ^ (8 * k))]) rfl rfl (by simp [le64_len]; omega) [false, false]
    refine ⟨p', n', c', w3, hr, ((8 * (k + 1) : Nat) : Int), by rw [i64w (by omega) (by omega)]; omega, 8 - (k + 1), by omega, hg1.trans hg, k + 1, rfl, by omega, rfl, ?_⟩
    have hget : (le64 nx)[k]? = some (b8 (nx / 2 ^ (8 * k))) := by
      unfold le64
      rw [List.getElem?_map, List.getElem?_range hlt]; rfl
    rw [take_succ_get _ k _ hget, ← List.append_assoc]
    exact ho
  · have hge := of_decide_eq_false hge
    have hk8 : k = 8 := by omega
    have : (le64 nx).take k = le64 nx := List.take_of_length_le (by rw [le64_len]; omega)
    rw [this] at ho1
    exact ⟨p1, n1, c1, rfl, ho1, hg1⟩
theorem ret50 (h : Own B w p n c l) (hB : B ≤ w.heap.size) (s : List UInt8) (hl : l.length ≤ 900000000) (hs : s.length ≤ 1000000) : Adds 50 [.slice p n c, .string (mkS s)] B w (l ++ docText s) := by
  refine Adds.of (c50 _ _ _ _ w _ ?_)
  unfold VC50
  refine ⟨_, i64w (by omega) (by omega), (ret47 h hB _ (by omega)).go fun w1 p1 n1 c1 ho1 hg1 => ⟨_, _, _, rfl, ?_⟩⟩
  have hB1 : B ≤ w1.heap.size := Nat.le_trans hB hg1.size
  obtain ⟨p2, n2, c2, w2, hr2, ho2, hg2⟩ := append_strT (l2 := s) ho1 hB1 (by rw [List.length_append, le32_len]; omega) [false, false]
  refine ⟨p2, n2, c2, w2, hr2, fun w3 hw3 => ?_⟩
  have hB2 : B ≤ w2.heap.size := Nat.le_trans hB1 hg2.size
  obtain ⟨p4, n4, c4, w4, hr4, ho4, hg4⟩ := append_litT ho2 hB2 hw3 (bs := [0]) rfl rfl (by simp [le32_len]; omega) [false, false]
  refine ⟨p4, n4, c4, w4, hr4, p4, n4, c4, rfl, ?_, (hg1.trans hg2).trans hg4⟩
  simpa [docText, List.append_assoc] using ho4
end
theorem ret80 (w : World) (kind : Int) (s : List UInt8) (hs : s.length ≤ 1000000) : Adds 80 [.int .i64 kind, .string (mkS s)] w.heap.size w ([b8 kind] ++ s ++ [0]) := by
  refine Adds.of (c80 _ _ w _ ?_)
  unfold VC80
  refine ⟨_, u8_wrap kind, fun w1 hw1 => ?_⟩
  have ho1 : Own w.heap.size w1 (some ⟨w.heap.size, 0, none⟩) 1 1 [b8 kind] := by rw [hw1]; exact Own.new w.heap.size w [b8 kind] (Nat.le_refl _) (by simp)
  have hk1 : Keeps w w1 := by rw [hw1]; exact (Keeps.refl w).alloc _
  have hg1 : Gr w.heap.size w w1 := Gr.of hk1 (Nat.le_refl _)
  obtain ⟨p2, n2, c2, w2, hr2, ho2, hg2⟩ := append_strT (l2 := s) ho1 hk1.size (by simp; omega) [false, false]
  refine ⟨p2, n2, c2, w2, hr2, fun w3 hw3 => ?_⟩
  have hB2 := Nat.le_trans hk1.size hg2.size
  obtain ⟨p4, n4, c4, w4, hr4, ho4, hg4⟩ := append_litT ho2 hB2 hw3 (bs := [0]) rfl rfl (by simp; omega) [false, false]
  exact ⟨p4, n4, c4, w4, hr4, p4, n4, c4, rfl, ho4, (hg1.trans hg2).trans hg4⟩
end Go.Proofs.Tryz
set_option linter.unusedVariables false
namespace Go.Proofs.Tryz
open Go.Vc Go.RowKit Go.Sort
def joinK : List (List UInt8) → List UInt8
  | [] => []
  | p :: r => p ++ r.flatMap fun q => 44 :: q
theorem joinK_snoc (ps : List (List UInt8)) (q : List UInt8) : joinK (ps ++ [q]) = joinK ps ++ (if ps = [] then [] else [44]) ++ q := by
  cases ps with
  | nil => simp [joinK]
  | cons p r => simp [joinK]
theorem joinK_len : ∀ (ps : List (List UInt8)), (joinK ps).length ≤ (ps.map fun p => p.length + 1).sum
  | [] => by simp [joinK]
  | p :: r => by
    have h : (r.flatMap fun q => 44 :: q).length = (r.map fun p => p.length + 1).sum := by
      induction r with
      | nil => rfl
      | cons q r ih => simp only [List.flatMap_cons, List.length_append, List.length_cons, List.map_cons, List.sum_cons, ih]
    simp only [joinK, List.length_append, List.map_cons, List.sum_cons, h]
    omega
theorem joinK_take_le (ps : List (List UInt8)) (k : Nat) : (joinK (ps.take k)).length ≤ (joinK ps).length := by
  cases ps with
  | nil => simp [joinK]
  | cons p r =>
    cases k with
    | zero => simp [joinK]
    | succ k =>
      have : joinK (p :: r) = joinK ((p :: r).take (k + 1)) ++ ((r.drop k).flatMap fun q => 44 :: q) := by
        simp only [List.take_succ_cons, joinK, List.append_assoc]
        rw [← List.flatMap_append, List.take_append_drop]
      rw [this, List.length_append]; omega
def kidT (esc three : Bool) (p : List UInt8 × List UInt8) : List UInt8 := if three then strF esc p.1 ++ [58] ++ p.2 else p.2
def kidsT (esc three : Bool) (ps : List (List UInt8 × List UInt8)) : List UInt8 :=
  (if three then [123] else [91]) ++ joinK (ps.map (kidT esc three)) ++ (if three then [125] else [93])
def KidOK (T : Val → List UInt8) (can esc : Bool) (w : World) (kp : Option Addr) (i : Nat) (n : List UInt8) (y : Val) : Prop :=
  ∃ (ka : Addr) (bp' : Option Addr) (bc' : Nat) (kp' : Option Addr) (kc' : Nat), kp = some ka ∧
    LoadsRow prog 46 w (ka.add (i * 9)) (Value.string (mkS n) :: valCells y bp' bc' kp' kc') ∧ n.length ≤ 300 ∧
    ∀ w', Keeps w w' → Ret 9 [.agg ⟨valCells y bp' bc' kp' kc'⟩, .bool can, .bool esc] w' (.tuple ⟨[.string (mkS (T y)), .bool true]⟩)
theorem loadsRow_keeps {t : Nat} {w w' : World} {a : Addr} {cs : List Value} (h : LoadsRow prog t w a cs) (k : Keeps w w') : LoadsRow prog t w' a cs :=
  ⟨h.1, fun i v hi => k.cell (h.2 i v hi)⟩
theorem ret30 (T : Val → List UInt8) (x : Val) (bp kp : Option Addr) (bc kc : Nat) (can esc : Bool) (w : World) (hkind : x.kind = 3 ∨ x.kind = 4) (hl2 : x.kids.length ≤ 1125899906842624)
    (hk : ∀ i n y, x.kids[i]? = some (n, y) → KidOK T can esc w kp i n y)
    (hlen : (joinK ((x.kids.map fun p => (p.1, T p.2)).map (kidT esc (decide (x.kind = 3))))).length ≤ 4611686018427387904)
    (htl : ∀ n y, (n, y) ∈ x.kids → (T y).length ≤ 4611686018427387904) :
    Ret 30 [.agg ⟨valCells x bp bc kp kc⟩, .bool can, .bool esc] w (.tuple ⟨[.string (mkS (kidsT esc (decide (x.kind = 3)) (x.kids.map fun p => (p.1, T p.2)))), .bool true]⟩) := by
  refine Ret.of (c30 _ _ _ _ _ _ _ _ _ _ _ _ can esc w _ ?_)
  unfold VC30
  intro w1 hw1
  have hk1 : Keeps w w1 := by rw [hw1]; exact (Keeps.refl w).alloc _
  have hv1 : Var w1 w.heap.size 26 (valCells x bp bc kp kc) := by rw [hw1]; exact var_alloc w _ 26
  have hw1' : w.heap.size < w1.heap.size := by rw [hw1]; simp
  clear hw1
  intro Kx hK
  let ps : List (List UInt8) := (x.kids.map fun p => (p.1, T p.2)).map (kidT esc (decide (x.kind = 3)))
  have hps : ps.length = x.kids.length := by simp [ps]
  change (joinK ps).length ≤ _ at hlen
  have main : ∀ o e : UInt8, kidsT esc (decide (x.kind = 3)) (x.kids.map fun p => (p.1, T p.2)) = [o] ++ joinK ps ++ [e] → Kx [o] [e] w1 := by
    intro o e hres
    refine hK [o] [e] w1 ⟨kp, x.kids.length, kc, hv1.lies.at 7 rfl rfl, fun m s i w3 => Keeps w1 w3 ∧ ∃ k : Nat, i = k ∧ k ≤ x.kids.length ∧ m = x.kids.length - k ∧ s = [o] ++ joinK (ps.take k),
      ⟨x.kids.length, Keeps.refl _, 0, rfl, by omega, rfl, by simp [joinK]⟩, ?_⟩
    rintro m s i w3 ⟨hk3, k, rfl, hkl, rfl, rfl⟩
    have hle := joinK_take_le ps k
    refine ⟨fun h => ?_, fun h => ?_⟩
    · have hlt : k < x.kids.length := by have := of_decide_eq_true h; omega
      have hget := List.getElem?_eq_getElem hlt
      rcases hny : x.kids[k]'hlt with ⟨n, y⟩
      rw [hny] at hget
      obtain ⟨ka, bp', bc', kp', kc', hka, hrow, hnl, hret⟩ := hk k n y hget
      have hk03 := hk1.trans hk3
      refine ⟨⟨by omega, by omega⟩, ka, hka, _, _, _, _, _, _, _, _, _, _, _, _, _, loadsRow_keeps hrow hk03, fun w4 hw4 => ?_⟩
      obtain ⟨w5, hst, hk5, hs5, hv5⟩ := store_new (t := 46) (cs := Value.string (mkS n) :: valCells y bp' bc' kp' kc') hw4 n46 rfl rfl rfl
      refine ⟨w5, hst, _, _, _, _, _, _, _, _, _, _, _, _, (hv5.lies.sub 1 8).row n26, ?_⟩
      have hk05 := hk03.trans hk5
      refine (hret w5 hk05).go fun w6 hk6 => ⟨_, _, rfl, fun h => by simp at h, fun _ => ?_⟩
      have hget' : ps[k]? = some (kidT esc (decide (x.kind = 3)) (n, T y)) := by simp [ps, hget]
      have htk : ps.take (k + 1) = ps.take k ++ [kidT esc (decide (x.kind = 3)) (n, T y)] := take_succ_get ps k _ hget'
      have hj := joinK_snoc (ps.take k) (kidT esc (decide (x.kind = 3)) (n, T y))
      rw [← htk] at hj
      have hle' := joinK_take_le ps (k + 1)
      have hty := htl n y (List.mem_of_getElem? hget)
      have hsl := strF_len esc n
      have hv6 : Var w6 w.heap.size 26 (valCells x bp bc kp kc) := ((hv1.keeps hk3).keeps hk5).keeps hk6
      have hn6 : w6.cell? ⟨w3.heap.size, 0, none⟩ = some (.string (mkS n)) := (hv5.keeps hk6).lies.at 0 rfl rfl
      intro Kx1 hK1
      have nxt : ∀ s1 : List UInt8, s1 ++ kidT esc (decide (x.kind = 3)) (n, T y) = [o] ++ joinK (ps.take (k + 1)) → Kx1 s1 w6 := by
        intro s1 he
        have hsum : s1.length + (kidT esc (decide (x.kind = 3)) (n, T y)).length = 1 + (joinK (ps.take (k + 1))).length := by
          have := congrArg List.length he
          simp only [List.length_append, List.length_cons, List.length_nil] at this
          omega
        refine hK1 s1 w6 ⟨x.kind, hv6.lies.at 0 rfl rfl, fun h3 => ?_, fun h3 => ?_⟩
        · have hs3 := hsum
          rw [h3] at hs3
          simp only [kidT, if_true, List.length_append, List.length_cons, List.length_nil] at hs3
          refine ⟨n, hn6, (ret24 n esc w6 (by omega)).go fun w8 hk8 => ⟨_, rfl, by simp; omega, by simp; omega, by simp; omega, _, i64w (by omega) (by omega), x.kids.length - (k + 1), by omega, ((hk3.trans hk5).trans hk6).trans hk8, k + 1, by omega, by omega, rfl, ?_⟩⟩
          rw [← he, h3]; simp [kidT]
        · rw [h3] at he hsum
          have he : s1 ++ T y = [o] ++ joinK (ps.take (k + 1)) := by simpa [kidT] using he
          have hsum : s1.length + (T y).length = 1 + (joinK (ps.take (k + 1))).length := by simpa [kidT] using hsum
          exact ⟨by omega, _, i64w (by omega) (by omega), x.kids.length - (k + 1), by omega, (hk3.trans hk5).trans hk6, k + 1, by omega, by omega, rfl, he⟩
      have hnil : ps.take k = [] ↔ k = 0 := by
        rw [← List.length_eq_zero_iff, List.length_take]; omega
      refine ⟨fun hp => ⟨by simp; omega, nxt _ ?_⟩, fun hp => nxt _ ?_⟩
      · have hp : ¬ k = 0 := by have := of_decide_eq_true hp; omega
        rw [hj, if_neg (fun e => hp (hnil.1 e))]; simp
      · have hp : k = 0 := by have := of_decide_eq_false hp; omega
        rw [hj, if_pos (hnil.2 hp)]; simp
    · have hge := of_decide_eq_false h
      have hkk : k = x.kids.length := by omega
      have : ps.take k = ps := List.take_of_length_le (by omega)
      rw [this, hres]
      exact ⟨by simp; omega, rfl, hk1.trans hk3⟩
  refine ⟨x.kind, hv1.lies.at 0 rfl rfl, fun h4 => main 91 93 ?_, fun h4 => main 123 125 ?_⟩
  · have : x.kind = 4 := of_decide_eq_true h4
    have h3 : decide (x.kind = 3) = false := decide_eq_false (by omega)
    unfold kidsT
    show (if decide (x.kind = 3) = true then [123] else [91]) ++ joinK ps ++ (if decide (x.kind = 3) = true then [125] else [93]) = _
    rw [h3]; rfl
  · have : x.kind ≠ 4 := of_decide_eq_false h4
    have h3 : decide (x.kind = 3) = true := decide_eq_true (by omega)
    unfold kidsT
    show (if decide (x.kind = 3) = true then [123] else [91]) ++ joinK ps ++ (if decide (x.kind = 3) = true then [125] else [93]) = _
    rw [h3]; rfl
end Go.Proofs.Tryz
set_option linter.unusedVariables false
namespace Go.Proofs.Tryz
open Go.Vc Go.RowKit
def elemB (T : Val → List UInt8) (q : List UInt8 × Val) : List UInt8 := [b8 q.2.kind] ++ q.1 ++ [0] ++ T q.2
def bodyB (T : Val → List UInt8) (ks : List (List UInt8 × Val)) : List UInt8 := ks.flatMap (elemB T)
def docB (T : Val → List UInt8) (ks : List (List UInt8 × Val)) : List UInt8 := le32 (((bodyB T ks).length : Int) + 5) ++ bodyB T ks ++ [0]
theorem Gr.keeps {a b : World} (h : Gr a.heap.size a b) : Keeps a b := h.below
def KidB (T : Val → List UInt8) (w : World) (kp : Option Addr) (i : Nat) (n : List UInt8) (y : Val) : Prop :=
  ∃ (ka : Addr) (bp' : Option Addr) (bc' : Nat) (kp' : Option Addr) (kc' : Nat), kp = some ka ∧
    LoadsRow prog 46 w (ka.add (i * 9)) (Value.string (mkS n) :: valCells y bp' bc' kp' kc') ∧ n.length ≤ 300 ∧
    ∀ w', Keeps w w' → Adds 17 [.agg ⟨valCells y bp' bc' kp' kc'⟩] w'.heap.size w' (T y)
theorem ret46 (T : Val → List UInt8) (n : List UInt8) (y : Val) (bp kp : Option Addr) (bc kc : Nat) (w : World) (hn : n.length ≤ 300) (hT : (T y).length ≤ 900000000)
    (h17 : ∀ w', Keeps w w' → Adds 17 [.agg ⟨valCells y bp bc kp kc⟩] w'.heap.size w' (T y)) :
    Adds 46 [.agg ⟨Value.string (mkS n) :: valCells y bp bc kp kc⟩] w.heap.size w (elemB T (n, y)) := by
  refine Adds.of (c46 n y.kind y.text y.more y.num y.bits y.high bp y.b.length bc kp y.kids.length kc w _ ?_)
  unfold VC46
  intro w1 hw1
  have hk1 : Keeps w w1 := by rw [hw1]; exact (Keeps.refl w).alloc _
  have hv1 : Var w1 w.heap.size 46 (Value.string (mkS n) :: valCells y bp bc kp kc) := by rw [hw1]; exact var_alloc w _ 46
  clear hw1
  have kept := hv1.lies.kept
  have mem : ∀ (j : Nat) (v : Value), (Value.string (mkS n) :: valCells y bp bc kp kc)[j]? = some v → ((⟨w.heap.size, j, none⟩ : Addr), v) ∈ rowFacts w.heap.size 0 (Value.string (mkS n) :: valCells y bp bc kp kc) := fun j v hj => by
    have := mem_rowFacts (b := w.heap.size) (o := 0) hj
    rwa [Nat.zero_add] at this
  have dr : Keeps w1 w1.drew := (Keeps.refl w1).drew
  refine ⟨_, kept, y.kind, mem 1 _ rfl, n, mem 0 _ rfl, y.kind, y.text, y.more, y.num, y.bits, y.high, bp, y.b.length, bc, kp, y.kids.length, kc, ⟨n26, fun i v hi => ?_⟩, ?_⟩
  · have := mem (i + 1) v hi
    rw [add_at, Nat.add_comm]; exact this
  refine (ret80 w1.drew y.kind n (by omega)).go fun w2 p2 n2 c2 ho2 hg2 => ⟨p2, n2, c2, rfl, kept_keeps kept (dr.trans hg2.keeps), ?_⟩
  refine (h17 w2 ((hk1.trans dr).trans hg2.keeps)).go fun w3 p3 n3 c3 ho3 hg3 => ⟨p3, n3, c3, rfl, ?_⟩
  have ho2' : Own w.heap.size w3 p2 n2 c2 ([b8 y.kind] ++ n ++ [0]) := (ho2.keeps hg3.keeps).weaken (by have := hk1.size; exact this)
  have hB3 : w.heap.size ≤ w3.heap.size := by have := hk1.size; have := hg2.size; have := hg3.size; show w.heap.size ≤ w3.heap.size; have e : w1.drew.heap.size = w1.heap.size := rfl; omega
  obtain ⟨p4, n4, c4, w4, hr4, ho4, hg4⟩ := append_bytesT ho2' ho3.reads ho3.len (fun e => ho3.nilcap e) hB3 (by simp; omega) [false, false]
  refine ⟨p4, n4, c4, w4, hr4, p4, n4, c4, rfl, ho4, (Gr.of (((hk1.trans dr).trans hg2.keeps).trans hg3.keeps) (Nat.le_refl _)).trans hg4⟩
theorem bodyB_succ (T : Val → List UInt8) (ks : List (List UInt8 × Val)) (k : Nat) (q : List UInt8 × Val) (h : ks[k]? = some q) : bodyB T (ks.take (k + 1)) = bodyB T (ks.take k) ++ elemB T q := by
  unfold bodyB
  rw [take_succ_get ks k q h, List.flatMap_append]; simp
theorem bodyB_take_le (T : Val → List UInt8) (ks : List (List UInt8 × Val)) (k : Nat) : (bodyB T (ks.take k)).length ≤ (bodyB T ks).length := by
  have : bodyB T ks = bodyB T (ks.take k) ++ bodyB T (ks.drop k) := by
    unfold bodyB; rw [← List.flatMap_append, List.take_append_drop]
  rw [this, List.length_append]; omega
theorem ret14 (T : Val → List UInt8) (ks : List (List UInt8 × Val)) (kp : Option Addr) (kc : Nat) (w : World) (hkn : ks.length ≤ 1125899906842624) (hk : ∀ i n y, ks[i]? = some (n, y) → KidB T w kp i n y)
    (hlen : (bodyB T ks).length ≤ 900000000) : Adds 14 [.slice kp ks.length kc] w.heap.size w (docB T ks) := by
  refine Adds.of (c14 _ _ _ w _ ?_)
  unfold VC14
  refine ⟨fun m p1 n1 c1 i w1 => Keeps w w1 ∧ ∃ k : Nat, i = k ∧ k ≤ ks.length ∧ m = ks.length - k ∧ Own w.heap.size w1 p1 n1 c1 (bodyB T (ks.take k)), ⟨ks.length, Keeps.refl w, 0, rfl, by omega, rfl, Own.nil _ _⟩, ?_⟩
  rintro m p1 n1 c1 i w1 ⟨hk1, k, rfl, hkl, rfl, ho1⟩
  have hle := bodyB_take_le T ks k
  refine ⟨fun hlt => ?_, fun hge => ?_⟩
  · have hlt : k < ks.length := by have := of_decide_eq_true hlt; omega
    have hget := List.getElem?_eq_getElem hlt
    rcases hny : ks[k]'hlt with ⟨n, y⟩
    rw [hny] at hget
    obtain ⟨ka, bp', bc', kp', kc', hka, hrow, hnl, h17⟩ := hk k n y hget
    have hsucc := bodyB_succ T ks k _ hget
    have hle' := bodyB_take_le T ks (k + 1)
    rw [hsucc, List.length_append] at hle'
    have hel : (T y).length ≤ (elemB T (n, y)).length := by simp [elemB]; omega
    refine ⟨⟨by omega, by omega⟩, ka, hka, _, _, _, _, _, _, _, _, _, _, _, _, _, loadsRow_keeps hrow hk1, ?_⟩
    refine (ret46 T n y bp' kp' bc' kc' w1 hnl (by omega) (fun w' hk' => h17 w' (hk1.trans hk'))).go fun w2 p2 n2 c2 ho2 hg2 => ⟨p2, n2, c2, rfl, ?_⟩
    have hk2 := hk1.trans hg2.keeps
    have ho1' := ho1.keeps hg2.keeps
    obtain ⟨p3, n3, c3, w3, hr3, ho3, hg3⟩ := append_bytesT ho1' ho2.reads ho2.len (fun e => ho2.nilcap e) hk2.size (by omega) [false, false]
    refine ⟨p3, n3, c3, w3, hr3, _, i64w (by omega) (by omega), ks.length - (k + 1), by omega, ?_, k + 1, by omega, by omega, rfl, by rw [hsucc]; exact ho3⟩
    exact Below.trans hk2 hg3.below
  · have hge := of_decide_eq_false hge
    have hkk : k = ks.length := by omega
    have hall : ks.take k = ks := List.take_of_length_le (by omega)
    rw [hall] at ho1
    have hn1 := ho1.len
    refine ⟨_, i64w (by omega) (by omega), ?_⟩
    refine (ret47 (Own.nil w1.heap.size w1) (Nat.le_refl _) _ (by simp)).go fun w4 p4 n4 c4 ho4 hg4 => ⟨p4, n4, c4, rfl, ?_⟩
    have hk4 := hk1.trans hg4.keeps
    have ho1' := ho1.keeps hg4.keeps
    obtain ⟨p5, n5, c5, w5, hr5, ho5, hg5⟩ := append_bytesT (ho4.weaken hk1.size) ho1'.reads ho1'.len (fun e => ho1'.nilcap e) hk4.size (by simp [le32_len]; omega) [false, false]
    have hB5 := Nat.le_trans hk4.size hg5.size
    refine ⟨p5, n5, c5, w5, hr5, fun w6 hw6 => ?_⟩
    obtain ⟨p7, n7, c7, w7, hr7, ho7, hg7⟩ := append_litT ho5 hB5 hw6 (bs := [0]) rfl rfl (by simp [le32_len]; omega) [false, false]
    refine ⟨p7, n7, c7, w7, hr7, p7, n7, c7, rfl, ?_, ((Gr.of hk4 (Nat.le_refl _)).trans hg5).trans hg7⟩
    rw [hn1] at ho7
    simpa [docB, List.append_assoc] using ho7
end Go.Proofs.Tryz
