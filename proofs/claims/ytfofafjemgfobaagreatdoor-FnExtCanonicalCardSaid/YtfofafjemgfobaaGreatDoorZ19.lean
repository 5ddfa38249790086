/- Parts of a proof, joined: R1, Shelf3, VL, W3. -/
import Derived.Test.YtfofafjemgfobaaGreatDoorZ4
import Derived.Test.YtfofafjemgfobaaGreatDoorZ12
import Derived.Test.YtfofafjemgfobaaGreatDoorRows
import Derived.ChangeArms
import Derived.SizedLaws
import Derived.DataReads
import Derived.Shelf.GgSortMore.SortSort
import Derived.Test.YtfofafjemgfobaaGreatDoorProg
/- What a row's reading of a value says of the memory. -/
set_option linter.unusedVariables false
namespace Go.Proofs.Tryz
open Go.Vc Go.RowKit

theorem fields26 : ∃ fs : Array Field, prog.underlying 26 = some (.struct fs) ∧ fs.size = 8 ∧ fs.toList.map (·.type) = [3, 9, 9, 2, 22, 22, 23, 24] ∧ fs.toList.map (·.offset) = [0, 1, 2, 3, 4, 5, 6, 7] :=
  ⟨match Go.Proofs.Tryz.t25.desc with | .struct fs => fs | _ => #[], by kernel_rfl, by kernel_rfl, by kernel_rfl, by kernel_rfl⟩
theorem fields46 : ∃ fs : Array Field, prog.underlying 46 = some (.struct fs) ∧ fs.size = 2 ∧ fs.toList.map (·.type) = [9, 26] ∧ fs.toList.map (·.offset) = [0, 1] :=
  ⟨match Go.Proofs.Tryz.t45.desc with | .struct fs => fs | _ => #[], by kernel_rfl, by kernel_rfl, by kernel_rfl, by kernel_rfl⟩
theorem ut3 : prog.underlying 3 = some (.int .i64) := by kernel_rfl
theorem ut2 : prog.underlying 2 = some (.int .i64) := by kernel_rfl
theorem ut22 : prog.underlying 22 = some (.int .u64) := by kernel_rfl
theorem ut9 : prog.underlying 9 = some .string := by kernel_rfl
theorem ut5 : prog.underlying 5 = some (.int .u8) := by kernel_rfl
theorem ut23 : prog.underlying 23 = some (.slice 5) := by kernel_rfl
theorem ut24 : prog.underlying 24 = some (.slice 46) := by kernel_rfl
theorem ct1 : prog.cellsOf 3 = 1 ∧ prog.cellsOf 9 = 1 ∧ prog.cellsOf 2 = 1 ∧ prog.cellsOf 22 = 1 ∧ prog.cellsOf 23 = 1 ∧ prog.cellsOf 24 = 1 ∧ prog.cellsOf 5 = 1 ∧ prog.cellsOf 26 = 8 ∧ prog.cellsOf 46 = 9 :=
  ⟨by kernel_rfl, by kernel_rfl, by kernel_rfl, by kernel_rfl, by kernel_rfl, by kernel_rfl, by kernel_rfl, by kernel_rfl, by kernel_rfl⟩
theorem bt5 : prog.bytesOf 5 = 1 := by kernel_rfl
theorem bt46 : prog.bytesOf 46 = 128 := by kernel_rfl

theorem wf_u8 {z : Int} (h : (Lit.int .u8 z).wf = true) : 0 ≤ z ∧ z ≤ 255 := by
  simp only [Lit.wf, Bool.and_eq_true, decide_eq_true_eq] at h
  have e1 : IntKind.u8.min = 0 := by kernel_rfl
  have e2 : IntKind.u8.max = 255 := by kernel_rfl
  rw [e1, e2] at h; exact h
theorem wf_i64 {z : Int} (h : (Lit.int .i64 z).wf = true) : inI64 z := by
  simp only [Lit.wf, Bool.and_eq_true, decide_eq_true_eq] at h
  have e1 : IntKind.i64.min = -9223372036854775808 := by kernel_rfl
  have e2 : IntKind.i64.max = 9223372036854775807 := by kernel_rfl
  rw [e1, e2] at h; exact h
theorem wf_u64 {z : Int} (h : (Lit.int .u64 z).wf = true) : inU64 z := by
  simp only [Lit.wf, Bool.and_eq_true, decide_eq_true_eq] at h
  have e1 : IntKind.u64.min = 0 := by kernel_rfl
  have e2 : IntKind.u64.max = 18446744073709551615 := by kernel_rfl
  rw [e1, e2] at h; exact h
theorem list_of_forall {α : Type} {P : Nat → α → Prop} : ∀ (len : Nat), (∀ i, i < len → ∃ a, P i a) → ∃ l : List α, l.length = len ∧ ∀ i a, l[i]? = some a → P i a
  | 0, _ => ⟨[], rfl, fun i a h => by simp at h⟩
  | len + 1, h => by
    obtain ⟨l, hl, hp⟩ := list_of_forall len fun i hi => h i (by omega)
    obtain ⟨a, ha⟩ := h len (by omega)
    refine ⟨l ++ [a], by simp [hl], fun i b hb => ?_⟩
    rcases Nat.lt_or_ge i l.length with h1 | h1
    · rw [List.getElem?_append_left h1] at hb
      exact hp i b hb
    · rw [List.getElem?_append_right h1] at hb
      have : i = l.length := by
        have := (List.getElem?_eq_some_iff.1 hb).1
        simp at this; omega
      subst this
      simp at hb
      subst hb
      rw [hl]; exact ha
theorem weightsAll_mem' {H : Type} {P : Program} {e : TypeId} : ∀ {l : List (DataW H)} {d : DataW H}, d ∈ l → ∀ n ∈ d.weights P e, n ∈ DataW.weightsAll P e l
  | a :: l, d, hm, n, hn => by
    rw [DataW.weightsAll, List.mem_append]
    rcases List.mem_cons.1 hm with rfl | hm
    · exact .inl hn
    · exact .inr (weightsAll_mem' hm n hn)

section
variable {H : Type} {enc : TypeId × Value → H} {W : World} {base : Nat} {sp : Nat → Bool} {held : Bool}

theorem mkS_toList (s : ByteArray) : mkS s.data.toList = s := rfl

theorem open_bytes {fuel : Nat} {cs : List Value} {x : DataW H × List MemPlace} (h : DataW.trod enc prog W base sp held fuel 23 cs = some x) (hw : ∀ n ∈ x.1.weights prog 23, n ≤ reachBytes) :
    ∃ (p : Option Addr) (l : List UInt8) (c : Nat), cs = [.slice p l.length c] ∧ ReadsB W p l ∧ (p = none → c = 0) ∧ l.length ≤ c ∧ l.length ≤ 1125899906842624 := by
  rcases DataW.trod_slice ut23 h with ⟨rfl, rfl⟩ | ⟨a, len, cap, elems, rest, n, _, rfl, rfl, hb, hl, hm, hlen, hel, _⟩
  · exact ⟨none, [], 0, rfl, ReadsB.nil _ _, fun _ => rfl, Nat.le_refl _, by decide⟩
  · have key : ∀ i, i < len → ∃ b : UInt8, W.cell? (a.add i) = some (.int .u8 (b.toNat : Int)) := by
      intro i hi
      have h1 := hel i hi
      rw [List.getElem?_eq_getElem (by omega)] at h1
      obtain ⟨cs', h2, h3⟩ := Option.bind_eq_some_iff.1 h1
      rw [ct1.2.2.2.2.2.2.1, Nat.mul_one] at h2
      obtain ⟨_, hl', hc'⟩ := World.cells?_some h2
      obtain ⟨z, rfl, _, hwf⟩ := DataW.trod_int ut5 h3
      have h0 := hc' 0 (by omega)
      have hz := wf_u8 hwf
      refine ⟨UInt8.ofNat z.toNat, ?_⟩
      have e : ((UInt8.ofNat z.toNat).toNat : Int) = z := by
        rw [UInt8.toNat_ofNat_of_lt' (by show z.toNat < 256; omega)]; omega
      rw [e]
      have e2 : (a.add i).add 0 = a.add i := by simp [Addr.add]
      rw [e2] at h0
      exact h0
    obtain ⟨l, hll, hlp⟩ := list_of_forall (P := fun i (b : UInt8) => W.cell? (a.add i) = some (.int .u8 (b.toNat : Int))) len key
    subst hll
    refine ⟨some a, l, cap, rfl, fun j b hj => ⟨a, rfl, hlp j b hj⟩, (fun e => by cases e), hl, ?_⟩
    have := hw (((elems.map (·.1)).length + (rest.map (·.1)).length) * prog.bytesOf 5) (by simp [DataW.weights])
    rw [bt5, List.length_map, hlen] at this
    have hr : reachBytes = 140737488351232 := rfl
    omega

theorem len_succ {α : Type} {l : List α} {n : Nat} (h : l.length = n + 1) : ∃ a r, l = a :: r ∧ r.length = n := by
  cases l with
  | nil => cases h
  | cons a r => exact ⟨a, r, rfl, by simpa using h⟩
theorem len8 {α : Type} {l : List α} (h : l.length = 8) : ∃ c0 c1 c2 c3 c4 c5 c6 c7, l = [c0, c1, c2, c3, c4, c5, c6, c7] := by
  obtain ⟨c0, l0, e0, h0⟩ := len_succ h
  obtain ⟨c1, l1, e1, h1⟩ := len_succ h0
  obtain ⟨c2, l2, e2, h2⟩ := len_succ h1
  obtain ⟨c3, l3, e3, h3⟩ := len_succ h2
  obtain ⟨c4, l4, e4, h4⟩ := len_succ h3
  obtain ⟨c5, l5, e5, h5⟩ := len_succ h4
  obtain ⟨c6, l6, e6, h6⟩ := len_succ h5
  obtain ⟨c7, l7, e7, h7⟩ := len_succ h6
  have e8 := List.eq_nil_of_length_eq_zero h7
  subst e8 e7 e6 e5 e4 e3 e2 e1 e0
  exact ⟨_, _, _, _, _, _, _, _, rfl⟩
/-- A struct's field, opened. -/
theorem open_field {t : TypeId} {fs : Array Field} {ts os : List Nat} {cs : List Value} {xs : List (DataW H × List MemPlace)} {n : Nat} (hu : prog.underlying t = some (.struct fs)) (ht : fs.toList.map (·.type) = ts) (ho : fs.toList.map (·.offset) = os) (hl : xs.length = fs.size)
    (hall : ∀ (i : Nat) (f : Field), fs[i]? = some f → DataW.trod enc prog W base sp held n f.type ((cs.drop f.offset).take (prog.cellsOf f.type)) = xs[i]?)
    (hw : ∀ m ∈ (DataW.agg (xs.map (·.1))).weights prog t, m ≤ reachBytes) (i : Nat) {ti oi : Nat} (hti : ts[i]? = some ti) (hoi : os[i]? = some oi) {ci : Nat} (hci : prog.cellsOf ti = ci) :
    ∃ y : DataW H × List MemPlace, DataW.trod enc prog W base sp held n ti ((cs.drop oi).take ci) = some y ∧ ∀ m ∈ y.1.weights prog ti, m ≤ reachBytes := by
  have hlt : i < fs.size := by
    have := (List.getElem?_eq_some_iff.1 hti).1
    rw [← ht, List.length_map, Array.length_toList] at this
    exact this
  have hf : fs[i]? = some fs[i] := Array.getElem?_eq_getElem hlt
  have e1 : fs[i].type = ti := by
    rw [← ht, List.getElem?_map] at hti
    have : fs.toList[i]? = some fs[i] := by simp [hlt]
    rw [this] at hti; simpa using hti
  have e2 : fs[i].offset = oi := by
    rw [← ho, List.getElem?_map] at hoi
    have : fs.toList[i]? = some fs[i] := by simp [hlt]
    rw [this] at hoi; simpa using hoi
  have h1 := hall i fs[i] hf
  rw [e1, e2, hci, List.getElem?_eq_getElem (by omega)] at h1
  refine ⟨_, h1, fun m hm => hw m ?_⟩
  simp only [DataW.weights, hu]
  refine DataW.weights_mem_each (j := i) (t := ti) ?_ ?_ m hm
  · rw [ht]; exact hti
  · rw [List.getElem?_map, List.getElem?_eq_getElem (by omega)]; rfl

theorem open_val : ∀ (fuel : Nat) (cs : List Value) (x : DataW H × List MemPlace), DataW.trod enc prog W base sp held fuel 26 cs = some x → (∀ n ∈ x.1.weights prog 26, n ≤ reachBytes) →
    ∃ (X : Val) (bp kp : Option Addr) (bc kc : Nat), cs = valCells X bp bc kp kc ∧ ∀ d, Hangs d W X bp bc kp kc := by
  intro fuel
  induction fuel using Nat.strongRecOn with
  | _ fuel ih =>
  intro cs x h hw
  obtain ⟨fs, hu, hsz, hts, hos⟩ := fields26
  obtain ⟨xs, n, hfu, rfl, hcl, hxl, hall⟩ := DataW.trod_struct hu h
  rw [ct1.2.2.2.2.2.2.2.1] at hcl
  obtain ⟨c0, c1, c2, c3, c4, c5, c6, c7, rfl⟩ := len8 hcl
  have fld : ∀ (i ti oi ci : Nat), ([3, 9, 9, 2, 22, 22, 23, 24] : List Nat)[i]? = some ti → ([0, 1, 2, 3, 4, 5, 6, 7] : List Nat)[i]? = some oi → prog.cellsOf ti = ci →
      ∃ y : DataW H × List MemPlace, DataW.trod enc prog W base sp held n ti (([c0, c1, c2, c3, c4, c5, c6, c7].drop oi).take ci) = some y ∧ ∀ m ∈ y.1.weights prog ti, m ≤ reachBytes :=
    fun i ti oi ci p1 p2 p3 => open_field hu hts hos hxl hall hw i p1 p2 p3
  obtain ⟨y0, h0, _⟩ := fld 0 3 0 1 rfl rfl ct1.1
  obtain ⟨y1, h1, _⟩ := fld 1 9 1 1 rfl rfl ct1.2.1
  obtain ⟨y2, h2, _⟩ := fld 2 9 2 1 rfl rfl ct1.2.1
  obtain ⟨y3, h3, _⟩ := fld 3 2 3 1 rfl rfl ct1.2.2.1
  obtain ⟨y4, h4, _⟩ := fld 4 22 4 1 rfl rfl ct1.2.2.2.1
  obtain ⟨y5, h5, _⟩ := fld 5 22 5 1 rfl rfl ct1.2.2.2.1
  obtain ⟨y6, h6, w6⟩ := fld 6 23 6 1 rfl rfl ct1.2.2.2.2.1
  obtain ⟨y7, h7, w7⟩ := fld 7 24 7 1 rfl rfl ct1.2.2.2.2.2.1
  clear fld hall
  obtain ⟨k, e0, _, q0⟩ := DataW.trod_int ut3 h0
  obtain ⟨tx, e1, _, _⟩ := DataW.trod_string ut9 h1
  obtain ⟨mo, e2, _, _⟩ := DataW.trod_string ut9 h2
  obtain ⟨nu, e3, _, q3⟩ := DataW.trod_int ut2 h3
  obtain ⟨bi, e4, _, q4⟩ := DataW.trod_int ut22 h4
  obtain ⟨hi, e5, _, q5⟩ := DataW.trod_int ut22 h5
  obtain ⟨bp, bl, bc, e6, rb, bn, bcl, bbl⟩ := open_bytes h6 w6
  obtain rfl : c0 = .int .i64 k := List.cons.inj e0 |>.1
  obtain rfl : c1 = .string tx := List.cons.inj e1 |>.1
  obtain rfl : c2 = .string mo := List.cons.inj e2 |>.1
  obtain rfl : c3 = .int .i64 nu := List.cons.inj e3 |>.1
  obtain rfl : c4 = .int .u64 bi := List.cons.inj e4 |>.1
  obtain rfl : c5 = .int .u64 hi := List.cons.inj e5 |>.1
  obtain rfl : c6 = .slice bp bl.length bc := List.cons.inj e6 |>.1
  have hown : ∀ (kids : List (List UInt8 × Val)), kids.length ≤ 1125899906842624 →
      ReadsB W bp (Val.mk k tx.data.toList mo.data.toList nu bi hi bl kids).b ∧ ((bp = none → bc = 0) ∧ (Val.mk k tx.data.toList mo.data.toList nu bi hi bl kids).b.length ≤ bc) ∧ inI64 (Val.mk k tx.data.toList mo.data.toList nu bi hi bl kids).kind ∧ inI64 (Val.mk k tx.data.toList mo.data.toList nu bi hi bl kids).num ∧
      inU64 (Val.mk k tx.data.toList mo.data.toList nu bi hi bl kids).bits ∧ inU64 (Val.mk k tx.data.toList mo.data.toList nu bi hi bl kids).high ∧ (Val.mk k tx.data.toList mo.data.toList nu bi hi bl kids).b.length ≤ 1125899906842624 ∧ (Val.mk k tx.data.toList mo.data.toList nu bi hi bl kids).kids.length ≤ 1125899906842624 :=
    fun kids hk => ⟨rb, ⟨bn, bcl⟩, wf_i64 q0, wf_i64 q3, wf_u64 q4, wf_u64 q5, bbl, hk⟩
  rcases DataW.trod_slice ut24 h7 with ⟨e7, _⟩ | ⟨a, len, cap, elems, rest, n', hn', e7, hy7, hb, hl, hm, hlen, hel, _⟩
  · obtain rfl : c7 = .slice none 0 0 := List.cons.inj e7 |>.1
    refine ⟨.mk k tx.data.toList mo.data.toList nu bi hi bl [], bp, none, bc, 0, rfl, fun d => ?_⟩
    cases d with
    | zero => exact hown [] (by simp)
    | succ d => exact ⟨hown [] (by simp), fun i n y hi => by simp [Val.kids] at hi⟩
  · obtain rfl : c7 = .slice (some a) len cap := List.cons.inj e7 |>.1
    have hy71 : y7.1 = .slice (elems.map (·.1)) (rest.map (·.1)) := by rw [hy7]
    rw [hy71] at w7
    have hbig := w7 (((elems.map (·.1)).length + (rest.map (·.1)).length) * prog.bytesOf 46) (by simp [DataW.weights])
    rw [bt46, List.length_map, hlen] at hbig
    have hr : reachBytes = 140737488351232 := rfl
    have key : ∀ i, i < len → ∃ p : List UInt8 × Val, ∃ (bp' kp' : Option Addr) (bc' kc' : Nat), (∀ j v, (Value.string (mkS p.1) :: valCells p.2 bp' bc' kp' kc')[j]? = some v → W.cell? ((a.add (i * 9)).add j) = some v) ∧ ∀ d, Hangs d W p.2 bp' bc' kp' kc' := by
      intro i hi
      have g1 := hel i hi
      rw [List.getElem?_eq_getElem (by omega)] at g1
      obtain ⟨cs', g2, g3⟩ := Option.bind_eq_some_iff.1 g1
      rw [ct1.2.2.2.2.2.2.2.2] at g2
      obtain ⟨_, hl', hc'⟩ := World.cells?_some g2
      have hwe : ∀ m ∈ (elems[i]'(by omega)).1.weights prog 46, m ≤ reachBytes := fun m hm' => w7 m (by
        simp only [DataW.weights, ut24]
        refine List.mem_cons_of_mem _ (List.mem_append_left _ (weightsAll_mem' ?_ m hm'))
        exact List.mem_map.2 ⟨_, List.getElem_mem (by omega), rfl⟩)
      obtain ⟨fs', hu', hsz', hts', hos'⟩ := fields46
      obtain ⟨xs', n'', hfu', hx', hcl', hxl', hall'⟩ := DataW.trod_struct hu' g3
      rw [hx'] at hwe
      have fld : ∀ (i ti oi ci : Nat), ([9, 26] : List Nat)[i]? = some ti → ([0, 1] : List Nat)[i]? = some oi → prog.cellsOf ti = ci →
          ∃ y : DataW H × List MemPlace, DataW.trod enc prog W base sp held n'' ti ((cs'.drop oi).take ci) = some y ∧ ∀ m ∈ y.1.weights prog ti, m ≤ reachBytes :=
        fun i ti oi ci p1 p2 p3 => open_field hu' hts' hos' hxl' hall' hwe i p1 p2 p3
      obtain ⟨z0, k0, _⟩ := fld 0 9 0 1 rfl rfl ct1.2.1
      obtain ⟨z1, k1, v1⟩ := fld 1 26 1 8 rfl rfl ct1.2.2.2.2.2.2.2.1
      obtain ⟨nm, f0, _, _⟩ := DataW.trod_string ut9 k0
      obtain ⟨Y, bp', kp', bc', kc', f1, hY⟩ := ih n'' (by omega) _ _ k1 v1
      obtain ⟨c, r, ecs, hr8⟩ := len_succ hl'
      rw [ecs] at f0 f1 hc'
      have f0' : c = .string nm := List.cons.inj f0 |>.1
      have f1' : r = valCells Y bp' bc' kp' kc' := by
        have : (List.drop 1 (c :: r)).take 8 = r := by
          rw [List.drop_one, List.tail_cons, List.take_of_length_le (by omega)]
        rw [← f1]; exact this.symm
      refine ⟨(nm.data.toList, Y), bp', kp', bc', kc', fun j v hj => ?_, hY⟩
      have hj9 : j < 9 := (List.getElem?_eq_some_iff.1 hj).1
      rw [hc' j hj9, f0', f1']
      exact hj
    obtain ⟨kids, hkl, hkp⟩ := list_of_forall len key
    subst hkl
    refine ⟨.mk k tx.data.toList mo.data.toList nu bi hi bl kids, bp, some a, bc, cap, rfl, fun d => ?_⟩
    cases d with
    | zero => exact hown kids (by omega)
    | succ d =>
      refine ⟨hown kids (by omega), fun i n y hi => ?_⟩
      obtain ⟨bp', kp', bc', kc', h1, h2⟩ := hkp i (n, y) hi
      exact ⟨a, bp', bc', kp', kc', rfl, h1, h2 d⟩
end
end Go.Proofs.Tryz
/- The shelf of the library's contracts at this program: a choice out of what the kit's tools laid. -/
namespace Go.Proofs
open Go.Shelf
def Tryz.laysGt11_ren : Go.Shelf.Ren := ⟨fun | 11 => 157 | 17 => 213 | 18 => 214 | 31 => 244 | 32 => 173 | 33 => 245 | 34 => 246 | 35 => 247 | 36 => 248 | 37 => 249 | 38 => 250 | 39 => 251 | 40 => 252 | 43 => 276 | 44 => 277 | 45 => 278 | 46 => 279 | 47 => 280 | 50 => 286 | n => n, fun | 45 => 286 | 3 => 3 | 4 => 4 | 47 => 61 | 0 => 0 | 56 => 164 | 58 => 22 | 61 => 320 | 60 => 319 | 65 => 272 | 5 => 5 | 9 => 9 | 67 => 345 | 71 => 48 | 73 => 359 | 74 => 86 | 43 => 131 | 26 => 323 | 38 => 344 | n => n, fun | n => n⟩
theorem Tryz.laysGt11 : Go.Proofs.LaysGt.n11 Tryz.prog Tryz.laysGt11_ren := {
  mixed := by kernel_rfl
  f11 := Tryz.func157.trans (congrArg some (by kernel_rfl))
  f17 := Tryz.func213.trans (congrArg some (by kernel_rfl))
  f18 := Tryz.func214.trans (congrArg some (by kernel_rfl))
  f31 := Tryz.func244.trans (congrArg some (by kernel_rfl))
  f32 := Tryz.func173.trans (congrArg some (by kernel_rfl))
  f33 := Tryz.func245.trans (congrArg some (by kernel_rfl))
  f34 := Tryz.func246.trans (congrArg some (by kernel_rfl))
  f35 := Tryz.func247.trans (congrArg some (by kernel_rfl))
  f36 := Tryz.func248.trans (congrArg some (by kernel_rfl))
  f37 := Tryz.func249.trans (congrArg some (by kernel_rfl))
  f38 := Tryz.func250.trans (congrArg some (by kernel_rfl))
  f39 := Tryz.func251.trans (congrArg some (by kernel_rfl))
  f40 := Tryz.func252.trans (congrArg some (by kernel_rfl))
  f43 := Tryz.func276.trans (congrArg some (by kernel_rfl))
  f44 := Tryz.func277.trans (congrArg some (by kernel_rfl))
  f45 := Tryz.func278.trans (congrArg some (by kernel_rfl))
  f46 := Tryz.func279.trans (congrArg some (by kernel_rfl))
  f47 := Tryz.func280.trans (congrArg some (by kernel_rfl))
  f50 := Tryz.func286.trans (congrArg some (by kernel_rfl))
  t0 := Tryz.underlying0
  a0 := Tryz.isAgg0
  z0 := Tryz.sizeOf0
  v0 := Tryz.zeroValue0
  i0 := by kernel_rfl
  t3 := Tryz.underlying3
  a3 := Tryz.isAgg3
  z3 := Tryz.sizeOf3
  v3 := Tryz.zeroValue3
  i3 := by kernel_rfl
  t4 := Tryz.underlying4
  a4 := Tryz.isAgg4
  z4 := Tryz.sizeOf4
  v4 := Tryz.zeroValue4
  i4 := by kernel_rfl
  t5 := Tryz.underlying5
  a5 := Tryz.isAgg5
  z5 := Tryz.sizeOf5
  v5 := Tryz.zeroValue5
  i5 := by kernel_rfl
  t9 := Tryz.underlying9
  a9 := Tryz.isAgg9
  z9 := Tryz.sizeOf9
  v9 := Tryz.zeroValue9
  i9 := by kernel_rfl
  t26 := Tryz.underlying323
  a26 := Tryz.isAgg323
  z26 := Tryz.sizeOf323
  v26 := Tryz.zeroValue323
  i26 := by kernel_rfl
  t38 := Tryz.underlying344
  a38 := Tryz.isAgg344
  z38 := Tryz.sizeOf344
  v38 := Tryz.zeroValue344
  i38 := by kernel_rfl
  t43 := Tryz.underlying131
  a43 := Tryz.isAgg131
  z43 := Tryz.sizeOf131
  v43 := Tryz.zeroValue131
  i43 := by kernel_rfl
  t45 := Tryz.underlying286
  a45 := Tryz.isAgg286
  z45 := Tryz.sizeOf286
  v45 := Tryz.zeroValue286
  i45 := by kernel_rfl
  t47 := Tryz.underlying61
  a47 := Tryz.isAgg61
  z47 := Tryz.sizeOf61
  v47 := Tryz.zeroValue61
  i47 := by kernel_rfl
  t56 := Tryz.underlying164
  a56 := Tryz.isAgg164
  z56 := Tryz.sizeOf164
  v56 := Tryz.zeroValue164
  i56 := by kernel_rfl
  t58 := Tryz.underlying22
  a58 := Tryz.isAgg22
  z58 := Tryz.sizeOf22
  v58 := Tryz.zeroValue22
  i58 := by kernel_rfl
  t60 := Tryz.underlying319
  a60 := Tryz.isAgg319
  z60 := Tryz.sizeOf319
  v60 := Tryz.zeroValue319
  i60 := by kernel_rfl
  t61 := Tryz.underlying320
  a61 := Tryz.isAgg320
  z61 := Tryz.sizeOf320
  v61 := Tryz.zeroValue320
  i61 := by kernel_rfl
  t65 := Tryz.underlying272
  a65 := Tryz.isAgg272
  z65 := Tryz.sizeOf272
  v65 := Tryz.zeroValue272
  i65 := by kernel_rfl
  t67 := Tryz.underlying345
  a67 := Tryz.isAgg345
  z67 := Tryz.sizeOf345
  v67 := Tryz.zeroValue345
  i67 := by kernel_rfl
  t71 := Tryz.underlying48
  a71 := Tryz.isAgg48
  z71 := Tryz.sizeOf48
  v71 := Tryz.zeroValue48
  i71 := by kernel_rfl
  t73 := Tryz.underlying359
  a73 := Tryz.isAgg359
  z73 := Tryz.sizeOf359
  v73 := Tryz.zeroValue359
  i73 := by kernel_rfl
  t74 := Tryz.underlying86
  a74 := Tryz.isAgg86
  z74 := Tryz.sizeOf86
  v74 := Tryz.zeroValue86
  i74 := by kernel_rfl }
open Go.RowKit Go.Lib Go.Sort in
theorem Tryz.sort_Sort_tiny {α : Type} [Inhabited α] (T : TypeId) (rv : Value) (gn : Nat) (rN : Reaches Tryz.prog T rv "Len" gn) (n : Nat) (hn : n ≤ 1) (w : World) (hlen : LenM Tryz.prog gn rv n w) :
    Calls Tryz.prog 157 #[.iface T rv] w fun e w' => e = .returned (.tuple #[]) ∧ ∃ q, w' = w.drewN q := Any.sort_Sort_tiny Tryz.laysGt11 T rv gn rN n hn w hlen
open Go.RowKit Go.Lib Go.Sort in
theorem Tryz.sort_Sort_sorted {α : Type} [Inhabited α] (T : TypeId) (rv : Value) (gn gl gs : Nat) (rN : Reaches Tryz.prog T rv "Len" gn) (rL : Reaches Tryz.prog T rv "Less" gl) (rS : Reaches Tryz.prog T rv "Swap" gs) (enc : α → Value) (lt : α → α → Bool) (hO : SWO lt) (blk off : Nat) (d : Array α) (h2 : 2 ≤ d.size) (hsz : d.size < 4611686018427387904) (w : World) (hlen : LenM Tryz.prog gn rv d.size w) (hless : LessM Tryz.prog gl rv enc lt blk off d.size w) (hswap : SwapM Tryz.prog gs rv enc blk off d.size) (hH : Holds enc w blk off d) (hblk : blk < w.heap.size) :
    Calls Tryz.prog 157 #[.iface T rv] w fun e w' => e = .returned (.tuple #[]) ∧ ∃ d' n os, PermIn 0 d.size d d' ∧ SortedIn lt 0 d.size d' ∧ w' = grow (putRow enc (Sort.ahead w n) blk off d') os := Any.sort_Sort_sorted Tryz.laysGt11 T rv gn gl gs rN rL rS enc lt hO blk off d h2 hsz w hlen hless hswap hH hblk
end Go.Proofs
set_option linter.unusedVariables false
set_option maxRecDepth 100000
namespace Go.Proofs.Tryz
open Go.Vc

/- F328: bson.sortableString).Len -/
def VC328 (ss : Option Addr) (ss_n ss_c : Nat) (w : World) (R : Value → World → Prop) : Prop :=
  R (.int .i64 (ss_n : Int)) w
def an328 : Ann :=
  .seq (.reg (.text []))
  (.seq (.reg (.text []))
  .leaf)
theorem vcE328 (ss : Option Addr) (ss_n ss_c : Nat) (w : World) (R : Value → World → Prop) : vcFn prog f328 an328 [.slice ss ss_n ss_c] w R = VC328 ss ss_n ss_c w R := by kernel_rfl
theorem c328 (ss : Option Addr) (ss_n ss_c : Nat) (w : World) (R : Value → World → Prop) (hvc : VC328 ss ss_n ss_c w R) : Calls prog 328 ⟨[.slice ss ss_n ss_c]⟩ w fun e w' => ∃ v, e = .returned v ∧ R v w' :=
  vc_calls mixed (fn := f328) (ann := an328) (by kernel_rfl) ((vcE328 ss ss_n ss_c w R).symm ▸ hvc)

/- F329: bson.sortableString).Less -/
def VC329 (ss : Option Addr) (ss_n ss_c : Nat) (i : Int) (j : Int) (w : World) (R : Value → World → Prop) : Prop :=
  ((0 : Int) ≤ i ∧ i < (ss_n : Int)) ∧ ∃ ssa : Addr, ss = some ssa ∧ 
  ∃ x10 : Int, w.drew.cell? (ssa.add (i.toNat * 1)) = some (.int .i32 x10) ∧ 
  ((0 : Int) ≤ j ∧ j < (ss_n : Int)) ∧ ∃ ssa_1 : Addr, ss = some ssa_1 ∧ 
  ∃ x14 : Int, w.drew.cell? (ssa_1.add (j.toNat * 1)) = some (.int .i32 x14) ∧ 
  R (.bool (decide (x10 < x14))) w.drew
def an329 : Ann :=
  .seq (.reg (.text []))
  (.seq (.reg (.loads (.take 0 (.p .n) (.take 1 (.p .n) (.take 2 (.p (.sh [])) (.take 3 (.p (.sh [.int .i32])) (.take 4 (.p .n) (.take 5 (.p .n) (.take 6 (.p (.sh [])) (.take 7 (.p (.sh [.int .i32])) (.take 8 (.p .n) (.take 9 (.p .n) .done))))))))))))
  .leaf)
theorem vcE329 (ss : Option Addr) (ss_n ss_c : Nat) (i : Int) (j : Int) (w : World) (R : Value → World → Prop) : vcFn prog f329 an329 [.slice ss ss_n ss_c, .int .i64 i, .int .i64 j] w R = VC329 ss ss_n ss_c i j w R := by kernel_rfl
theorem c329 (ss : Option Addr) (ss_n ss_c : Nat) (i : Int) (j : Int) (w : World) (R : Value → World → Prop) (hvc : VC329 ss ss_n ss_c i j w R) : Calls prog 329 ⟨[.slice ss ss_n ss_c, .int .i64 i, .int .i64 j]⟩ w fun e w' => ∃ v, e = .returned v ∧ R v w' :=
  vc_calls mixed (fn := f329) (ann := an329) (by kernel_rfl) ((vcE329 ss ss_n ss_c i j w R).symm ▸ hvc)

/- F330: bson.sortableString).Swap -/
def VC330 (ss : Option Addr) (ss_n ss_c : Nat) (i : Int) (j : Int) (w : World) (R : Value → World → Prop) : Prop :=
  ∃ f : List (Addr × Value), Kept w f ∧
  ((0 : Int) ≤ j ∧ j < (ss_n : Int)) ∧ ∃ ssa : Addr, ss = some ssa ∧ 
  ∃ x13 : Int, ((ssa.add (j.toNat * 1)), .int .i32 x13) ∈ f ∧ 
  ((0 : Int) ≤ i ∧ i < (ss_n : Int)) ∧ ∃ ssa_1 : Addr, ss = some ssa_1 ∧ 
  ∃ x17 : Int, ((ssa_1.add (i.toNat * 1)), .int .i32 x17) ∈ f ∧ 
  ((0 : Int) ≤ i ∧ i < (ss_n : Int)) ∧ ∃ ssa_2 : Addr, ss = some ssa_2 ∧ 
  CanStore w.drew (ssa_2.add (i.toNat * 1)) (.int .i32 x13) ∧ ∀ w1, w1 = w.drew.setCell (ssa_2.add (i.toNat * 1)) (.int .i32 x13) → 
  ((0 : Int) ≤ j ∧ j < (ss_n : Int)) ∧ ∃ ssa_3 : Addr, ss = some ssa_3 ∧ 
  CanStore w1 (ssa_3.add (j.toNat * 1)) (.int .i32 x17) ∧ ∀ w2, w2 = w1.setCell (ssa_3.add (j.toNat * 1)) (.int .i32 x17) → 
  R (.tuple ⟨[]⟩) w2
def an330 : Ann :=
  .reg (.held [13, 15] (.take 0 (.p .n) (.take 1 (.p .n) (.take 2 (.p .n) (.take 3 (.p .n) (.take 4 (.p .n) (.take 5 (.p .n) (.take 6 (.p (.sh [])) (.take 7 (.p (.sh [.int .i32])) (.take 8 (.p .n) (.take 9 (.p .n) (.take 10 (.p (.sh [])) (.take 11 (.p (.sh [.int .i32])) (.take 12 (.p (.sh [])) (.run 13 (.p .n) (.take 14 (.p (.sh [])) (.run 15 (.p .n) .done .done)) .done)))))))))))))))
theorem vcE330 (ss : Option Addr) (ss_n ss_c : Nat) (i : Int) (j : Int) (w : World) (R : Value → World → Prop) : vcFn prog f330 an330 [.slice ss ss_n ss_c, .int .i64 i, .int .i64 j] w R = VC330 ss ss_n ss_c i j w R := by kernel_rfl
theorem c330 (ss : Option Addr) (ss_n ss_c : Nat) (i : Int) (j : Int) (w : World) (R : Value → World → Prop) (hvc : VC330 ss ss_n ss_c i j w R) : Calls prog 330 ⟨[.slice ss ss_n ss_c, .int .i64 i, .int .i64 j]⟩ w fun e w' => ∃ v, e = .returned v ∧ R v w' :=
  vc_calls mixed (fn := f330) (ann := an330) (by kernel_rfl) ((vcE330 ss ss_n ss_c i j w R).symm ▸ hvc)

end Go.Proofs.Tryz
/- A string of JSON, as the writer writes it. -/
set_option linter.unusedVariables false
namespace Go.Proofs.Tryz
open Go.Vc Go.RowKit

set_option maxHeartbeats 4000000 in
theorem ret125 (s : List UInt8) (b : Nat) (esc : Bool) (l : List UInt8) (w : World) (hu : utf8F s = true) (hs : s.length ≤ 1073741824) (hl : l.length ≤ 1073741824) (hb : Buf b l w) (ht : Esc w) (hb11 : 11 < b) :
    Calls prog 125 ⟨[.string (mkS s), .pointer (some ⟨b, 0, none⟩), .bool esc]⟩ w fun e w' => e = .returned (.tuple ⟨[]⟩) ∧ Buf b (l ++ strF esc s) w' ∧ Below b w w' := by
  have := c125 s ⟨b, 0, none⟩ esc w (fun v w' => v = .tuple ⟨[]⟩ ∧ Buf b (l ++ strF esc s) w' ∧ Below b w w') ?_
  · exact this.mono fun e w' ⟨v, he, hv, h⟩ => ⟨by rw [he, hv], h⟩
  unfold VC125
  refine (hb.byte 34 (by omega)).mono ?_
  rintro e w1 ⟨rfl, hb1, hk1⟩
  refine ⟨rfl, fun m st i w2 => Below b w w2 ∧ ∃ (a k : Nat) (acc : List UInt8), st = a ∧ i = k ∧ a ≤ k ∧ k ≤ s.length ∧ m = s.length - k ∧ Buf b (l ++ acc) w2 ∧ acc.length ≤ 1 + 6 * a ∧ utf8F (s.drop k) = true ∧
    34 :: escF esc s = acc ++ (s.drop a).take (k - a) ++ escF esc (s.drop k), ⟨s.length, hk1, 0, 0, [34], rfl, rfl, by omega, by omega, rfl, hb1, by simp, by simpa using hu, by simp⟩, ?_⟩
  rintro m st i w2 ⟨hk2, a, k, acc, rfl, rfl, hak, hks, rfl, hb2, hal, hu2, hesc⟩
  have pend : ((s.drop a).take (k - a)).length = k - a := by rw [List.length_take, List.length_drop]; omega
  -- what is pending is written
  have flush : ∀ (w3 : World) (K : World → Prop), Below b w w3 → Buf b (l ++ acc) w3 → (∀ w4, Below b w w4 → Buf b (l ++ (acc ++ (s.drop a).take (k - a))) w4 → K w4) →
      (decide ((a : Int) < (k : Int)) = true → ((0 : Int) ≤ (a : Int) ∧ (a : Int) ≤ (k : Int) ∧ (k : Int) ≤ (s.length : Int)) ∧
        Calls prog 141 ⟨[.pointer (some ⟨b, 0, none⟩), .string (mkS ((s.drop (a : Int).toNat).take ((k : Int).toNat - (a : Int).toNat)))]⟩ w3 fun e w21 => ∃ x44 : Int, e = .returned (.tuple ⟨[.int .i64 x44, .nilIface]⟩) ∧ K w21) ∧
      (decide ((a : Int) < (k : Int)) = false → K w3) := by
    intro w3 K hk3 hb3 hK
    refine ⟨fun h => ⟨⟨by omega, by omega, by omega⟩, ?_⟩, fun h => ?_⟩
    · simp only [Int.toNat_natCast]
      refine (hb3.str ((s.drop a).take (k - a)) (by rw [pend]; simp only [List.length_append]; omega)).mono ?_
      rintro e w4 ⟨rfl, hb4, hk4⟩
      exact ⟨_, rfl, hK w4 (hk3.trans hk4) (by rw [← List.append_assoc]; exact hb4)⟩
    · have h := of_decide_eq_false h
      refine hK w3 hk3 ?_
      have : k - a = 0 := by omega
      rw [this, List.take_zero, List.append_nil]; exact hb3
  refine ⟨fun h => ?_, fun h => ?_⟩
  · have h := of_decide_eq_true h
    have hlt : k < s.length := by omega
    obtain ⟨x, hx⟩ : ∃ x, s[k]? = some x := ⟨_, List.getElem?_eq_getElem hlt⟩
    have hxl := x.toNat_lt
    have hdc := drop_cons hx
    have hne : s.drop k ≠ [] := by rw [hdc]; simp
    have huc := utf8F_cons (s.drop k) hne
    rw [hu2] at huc
    have hr0 : (runeF (s.drop k)).1 ≠ 0 := by
      intro e; rw [e] at huc; simp at huc
    have hstep : stepF (s.drop k) = ((runeF (s.drop k)).1, (runeF (s.drop k)).2, true) := by unfold stepF; rw [if_neg hr0]
    have hun : utf8F (s.drop (k + (runeF (s.drop k)).1)) = true := by
      rw [hstep] at huc
      have := huc.symm
      simp only [Bool.and_eq_true] at this
      rw [List.drop_drop] at this
      exact this.2
    have hcons := escF_cons esc (s.drop k) hne
    rw [hstep, List.drop_drop] at hcons
    have hle := stepF_le (s.drop k) hne
    rw [hstep, List.length_drop] at hle
    simp only [] at hcons hle
    refine ⟨x, ⟨by omega, hx⟩, fun h128 => ?_, fun h128 => ?_⟩
    · -- a byte of ASCII
      have h128 : x.toNat < 128 := by have := of_decide_eq_true h128; omega
      have hrune : runeF (s.drop k) = (1, x.toNat) := by rw [hdc, runeF, if_pos h128]
      rw [hrune] at hcons hun hle
      simp only [] at hcons hun hle
      have ht1 : (s.drop k).take 1 = [x] := by rw [hdc]; rfl
      rw [ht1] at hcons
      have hx1 : UInt8.ofNat x.toNat = x := by simp
      -- nothing stands for it
      have skip : piece esc [x] x.toNat = [x] → ∃ x35 : Int, IntKind.i64.wrap ((k : Int) + 1) = x35 ∧ ∃ m_1, m_1 < s.length - k ∧ (Below b w w2 ∧ ∃ (a' k' : Nat) (acc' : List UInt8), (a : Int) = a' ∧ x35 = k' ∧ a' ≤ k' ∧ k' ≤ s.length ∧ m_1 = s.length - k' ∧ Buf b (l ++ acc') w2 ∧ acc'.length ≤ 1 + 6 * a' ∧ utf8F (s.drop k') = true ∧
          34 :: escF esc s = acc' ++ (s.drop a').take (k' - a') ++ escF esc (s.drop k')) := by
        intro hp
        refine ⟨_, i64w (by omega) (by omega), s.length - (k + 1), by omega, hk2, a, k + 1, acc, rfl, by omega, by omega, by omega, rfl, hb2, by omega, hun, ?_⟩
        rw [hesc, hcons, hp, seg_step s a k 1 hak, ht1]
        simp [List.append_assoc]
      -- something stands for it
      have done : ∀ (w' : World) (out : List UInt8), piece esc [x] x.toNat = out → out.length ≤ 6 → Below b w w' → Buf b (l ++ (acc ++ (s.drop a).take (k - a) ++ out)) w' →
          ∃ x97 : Int, IntKind.i64.wrap ((k : Int) + 1) = x97 ∧ ∃ m_1, m_1 < s.length - k ∧ (Below b w w' ∧ ∃ (a' k' : Nat) (acc' : List UInt8), x97 = a' ∧ x97 = k' ∧ a' ≤ k' ∧ k' ≤ s.length ∧ m_1 = s.length - k' ∧ Buf b (l ++ acc') w' ∧ acc'.length ≤ 1 + 6 * a' ∧ utf8F (s.drop k') = true ∧
          34 :: escF esc s = acc' ++ (s.drop a').take (k' - a') ++ escF esc (s.drop k')) := by
        intro w' out hp hol hk' hb'
        refine ⟨_, i64w (by omega) (by omega), s.length - (k + 1), by omega, hk', k + 1, k + 1, _, by omega, by omega, by omega, by omega, rfl, hb', ?_, hun, ?_⟩
        · simp only [List.length_append, pend]; omega
        · rw [hesc, hcons, hp]
          simp [List.append_assoc]
      intro Kx hK
      have keyx : ¬ (htmlB x.toNat = true) → ¬ (esc = false ∧ safeB x.toNat = true) → Kx (k : Int) w2 := by
        intro hnh hns
        refine hK _ w2 ?_
        intro K1 hK1
        have key1 : ∀ w4, Below b w w4 → Buf b (l ++ (acc ++ (s.drop a).take (k - a))) w4 → K1 w4 := by
          intro w4 hk4 hb4
          refine hK1 w4 ?_
          have hl4 : (l ++ (acc ++ (s.drop a).take (k - a))).length ≤ 20000000000 := by simp only [List.length_append, pend]; omega
          -- two bytes stand for it
          have two : ∀ y : UInt8, piece esc [x] x.toNat = [92, y] → Calls prog 140 ⟨[.pointer (some ⟨b, 0, none⟩), .int .u8 92]⟩ w4 fun e w6 => e = .returned .nilIface ∧ 
                Calls prog 140 ⟨[.pointer (some ⟨b, 0, none⟩), .int .u8 (y.toNat : Int)]⟩ w6 fun e w7 => e = .returned .nilIface ∧
                ∃ x97 : Int, IntKind.i64.wrap ((k : Int) + 1) = x97 ∧ ∃ m_1, m_1 < s.length - k ∧ (Below b w w7 ∧ ∃ (a' k' : Nat) (acc' : List UInt8), x97 = a' ∧ x97 = k' ∧ a' ≤ k' ∧ k' ≤ s.length ∧ m_1 = s.length - k' ∧ Buf b (l ++ acc') w7 ∧ acc'.length ≤ 1 + 6 * a' ∧ utf8F (s.drop k') = true ∧
                  34 :: escF esc s = acc' ++ (s.drop a').take (k' - a') ++ escF esc (s.drop k')) := by
            intro y hp
            refine (hb4.byte 92 (by omega)).mono ?_
            rintro e w6 ⟨rfl, hb6, hk6⟩
            refine ⟨rfl, (hb6.byte y (by rw [List.length_append]; simp only [List.length_cons, List.length_nil]; omega)).mono ?_⟩
            rintro e w7 ⟨rfl, hb7, hk7⟩
            refine ⟨rfl, done w7 [92, y] hp (by simp) ((hk4.trans hk6).trans hk7) ?_⟩
            have e1 : l ++ (acc ++ (s.drop a).take (k - a) ++ [92, y]) = l ++ (acc ++ (s.drop a).take (k - a)) ++ [92] ++ [y] := by simp [List.append_assoc]
            rw [e1]; exact hb7
          intro K2 hK2
          have key2 : ∀ q : Bool, (q = true ↔ (x.toNat = 92 ∨ x.toNat = 34)) → K2 q w4 := by
            intro q hq
            refine hK2 q w4 ⟨fun hqt => two x (by unfold piece; rw [if_pos (by have := hq.1 hqt; omega), hx1]), fun hqf => ?_⟩
            have hq' : ¬ (x.toNat = 34 ∨ x.toNat = 92) := fun e => by rw [hq.2 (by omega)] at hqf; cases hqf
            have pc : ∀ y, (x.toNat = 8 ∨ x.toNat = 9 ∨ x.toNat = 10 ∨ x.toNat = 12 ∨ x.toNat = 13) → ([98, 116, 110, 46, 102, 114] : List UInt8).getD (x.toNat - 8) 0 = y → piece esc [x] x.toNat = [92, y] := by
              intro y h1 h2; unfold piece; rw [if_neg hq', if_pos h1, h2]
            refine ⟨fun hc => two 110 (by
              have h' : x.toNat = 10 := by have := of_decide_eq_true hc; omega
              exact pc 110 (by omega) (by rw [h']; rfl)), fun h10 => ⟨fun hc => two 114 (by
              have h' : x.toNat = 13 := by have := of_decide_eq_true hc; omega
              exact pc 114 (by omega) (by rw [h']; rfl)), fun h13 => ⟨fun hc => two 116 (by
              have h' : x.toNat = 9 := by have := of_decide_eq_true hc; omega
              exact pc 116 (by omega) (by rw [h']; rfl)), fun h9 => ⟨fun hc => two 98 (by
              have h' : x.toNat = 8 := by have := of_decide_eq_true hc; omega
              exact pc 98 (by omega) (by rw [h']; rfl)), fun h8 => ⟨fun hc => two 102 (by
              have h' : x.toNat = 12 := by have := of_decide_eq_true hc; omega
              exact pc 102 (by omega) (by rw [h']; rfl)), fun h12 => ?_⟩⟩⟩⟩⟩
            have n10 : ¬ x.toNat = 10 := by have := of_decide_eq_false h10; omega
            have n13 : ¬ x.toNat = 13 := by have := of_decide_eq_false h13; omega
            have n9 : ¬ x.toNat = 9 := by have := of_decide_eq_false h9; omega
            have n8 : ¬ x.toNat = 8 := by have := of_decide_eq_false h8; omega
            have n12 : ¬ x.toNat = 12 := by have := of_decide_eq_false h12; omega
            have hp : piece esc [x] x.toNat = [92, 117, 48, 48] ++ hex2 x.toNat := by
              unfold piece
              rw [if_neg hq', if_neg (by omega), if_pos]
              by_cases h32 : x.toNat < 32
              · exact .inl h32
              · right
                have hh : x.toNat = 60 ∨ x.toNat = 62 ∨ x.toNat = 38 := by
                  apply Classical.byContradiction
                  intro hcon
                  apply hnh
                  unfold htmlB
                  have a1 : 32 ≤ x.toNat := by omega
                  have b1 : (x.toNat == 34) = false := by rw [beq_eq_false_iff_ne]; omega
                  have b2 : (x.toNat == 92) = false := by rw [beq_eq_false_iff_ne]; omega
                  have b3 : (x.toNat == 60) = false := by rw [beq_eq_false_iff_ne]; omega
                  have b4 : (x.toNat == 62) = false := by rw [beq_eq_false_iff_ne]; omega
                  have b5 : (x.toNat == 38) = false := by rw [beq_eq_false_iff_ne]; omega
                  rw [b1, b2, b3, b4, b5]; simp [a1]
                refine ⟨?_, hh⟩
                cases esc with
                | true => rfl
                | false =>
                  exfalso
                  apply hns
                  refine ⟨rfl, ?_⟩
                  unfold safeB
                  have a1 : 32 ≤ x.toNat := by omega
                  have b1 : (x.toNat == 34) = false := by rw [beq_eq_false_iff_ne]; omega
                  have b2 : (x.toNat == 92) = false := by rw [beq_eq_false_iff_ne]; omega
                  rw [b1, b2]; simp [a1]
            refine (hb4.str [92, 117, 48, 48] (by simp only [List.length_cons, List.length_nil]; omega)).mono ?_
            rintro e w18 ⟨rfl, hb18, hk18⟩
            refine ⟨_, rfl, by decide, ((x.toNat / 16 : Nat) : Int), fdiv_nat x.toNat 4, hexD (x.toNat / 16), ⟨by omega, by rw [Int.toNat_natCast]; exact hexD_get _ (by omega)⟩, ?_⟩
            refine (hb18.byte (hexD (x.toNat / 16)) (by rw [List.length_append]; simp only [List.length_cons, List.length_nil]; omega)).mono ?_
            rintro e w19 ⟨rfl, hb19, hk19⟩
            refine ⟨rfl, ((x.toNat % 16 : Nat) : Int), hex_and15 x.toNat (by omega), hexD (x.toNat % 16), ⟨by omega, by rw [Int.toNat_natCast]; exact hexD_get _ (by omega)⟩, ?_⟩
            refine (hb19.byte (hexD (x.toNat % 16)) (by rw [List.length_append, List.length_append]; simp only [List.length_cons, List.length_nil]; omega)).mono ?_
            rintro e w20 ⟨rfl, hb20, hk20⟩
            refine ⟨rfl, done w20 _ hp (by simp [hex2]) (((hk4.trans hk18).trans hk19).trans hk20) ?_⟩
            have e1 : l ++ (acc ++ (s.drop a).take (k - a) ++ ([92, 117, 48, 48] ++ hex2 x.toNat)) = l ++ (acc ++ (s.drop a).take (k - a)) ++ [92, 117, 48, 48] ++ [hexD (x.toNat / 16)] ++ [hexD (x.toNat % 16)] := by simp [hex2, List.append_assoc]
            rw [e1]; exact hb20
          refine ⟨fun h92 => key2 _ ?_, fun h92 => key2 _ ?_⟩
          · have h := of_decide_eq_true h92
            simp only [decide_eq_true_eq]; omega
          · have h := of_decide_eq_false h92
            simp only [decide_eq_true_eq]; omega
        exact flush w2 K1 hk2 hb2 key1
      have ht2 : Esc w2 := ht.below hk2 hb11
      have eadd : ∀ g : Nat, ((⟨g, 0, none⟩ : Addr).add (((x.toNat : Nat) : Int).toNat * 1)) = ⟨g, x.toNat, none⟩ := fun g => by rw [add_at, Nat.zero_add, Nat.mul_one, Int.toNat_natCast]
      refine ⟨⟨by omega, by omega⟩, htmlB x.toNat, by rw [eadd]; exact ht2.html _ h128, fun hh => skip ?_, fun hh => ⟨fun he => ⟨⟨by omega, by omega⟩, safeB x.toNat, by rw [eadd]; exact ht2.safe _ h128, fun hsf => skip ?_, fun hsf => keyx (by rw [hh]; decide) (by rw [hsf]; simp)⟩, fun he => keyx (by rw [hh]; decide) ?_⟩⟩
      · unfold htmlB at hh
        simp only [Bool.and_eq_true, decide_eq_true_eq, Bool.not_eq_true', Bool.or_eq_false_iff, beq_eq_false_iff_ne] at hh
        unfold piece
        rw [if_neg (by omega), if_neg (by omega), if_neg (by omega), if_neg (by omega)]
      · have he : esc = false := by simpa using he
        unfold safeB at hsf
        simp only [Bool.and_eq_true, decide_eq_true_eq, Bool.not_eq_true', Bool.or_eq_false_iff, beq_eq_false_iff_ne] at hsf
        unfold piece
        rw [if_neg (by omega), if_neg (by omega), if_neg (by rw [he]; simp; omega), if_neg (by omega)]
      · have he : esc = true := by simpa using he
        rw [he]; simp
    · -- a greater character
      have h128 : 128 ≤ x.toNat := by have := of_decide_eq_false h128; omega
      have hbig := rune_big x (s.drop (k + 1)) h128 (by rw [← hdc]; exact hr0)
      rw [← hdc] at hbig
      have hdec := rune_decode (s.drop k) hr0
      have hClt := stepF_lt (s.drop k)
      rw [hstep] at hClt
      generalize hN : (runeF (s.drop k)).1 = N at *
      generalize hC : (runeF (s.drop k)).2 = C at *
      simp only [] at hClt
      have ht2 : Esc w2 := ht.below hk2 hb11
      refine ⟨⟨by omega, by omega⟩, ?_⟩
      rw [Int.toNat_natCast]
      refine (utf8_DecodeRuneInString (mkS (s.drop k)) w2 ht2.utf).mono ?_
      rintro e w22 ⟨rfl, hk22⟩
      rw [hdec]
      refine ⟨(C : Int), (N : Int), rfl, ?_⟩
      have hk22' : Below b w w22 := hk2.trans (Below.mono hk22 (Nat.le_of_lt hb2.lt))
      have hb22 : Buf b (l ++ acc) w22 := by
        obtain ⟨h1, v, lr, h2, h3, h4⟩ := hb2
        refine ⟨h1, v, lr, by rw [Below.block hk22 b (Array.getElem?_eq_some_iff.1 h2).1]; exact h2, ?_, h4⟩
        obtain ⟨p, c, rfl⟩ := slice_of_owns h3
        have ho : Own b w2 p _ c (l ++ acc) := ⟨h3, by rw [bc_length]⟩
        exact (ho.keeps hk22).1
      intro K3 hK3
      have key3 : K3 (a : Int) (k : Int) w22 := by
        refine hK3 _ _ w22 ?_
        intro K4 hK4
        have key4 : ∀ q : Bool, (q = true ↔ (C = 8232 ∨ C = 8233)) → K4 q w22 := by
          intro q hq
          refine hK4 q w22 ⟨fun hqt => ?_, fun hqf => ?_⟩
          · have hc := hq.1 hqt
            intro K5 hK5
            have key5 : ∀ w25, Below b w w25 → Buf b (l ++ (acc ++ (s.drop a).take (k - a))) w25 → K5 w25 := by
              intro w25 hk25 hb25
              refine hK5 w25 ?_
              have hl25 : (l ++ (acc ++ (s.drop a).take (k - a))).length ≤ 20000000000 := by simp only [List.length_append, pend]; omega
              refine (hb25.str [92, 117, 50, 48, 50] (by simp only [List.length_cons, List.length_nil]; omega)).mono ?_
              rintro e w26 ⟨rfl, hb26, hk26⟩
              have hd : hexD (C % 16) = UInt8.ofNat (56 + C - 8232) := by rcases hc with h | h <;> rw [h] <;> rfl
              refine ⟨_, rfl, ((C % 16 : Nat) : Int), hex_and15i C (by omega), hexD (C % 16), ⟨by omega, by rw [Int.toNat_natCast]; exact hexD_get _ (by omega)⟩, ?_⟩
              refine (hb26.byte (hexD (C % 16)) (by rw [List.length_append]; simp only [List.length_cons, List.length_nil]; omega)).mono ?_
              rintro e w27 ⟨rfl, hb27, hk27⟩
              refine ⟨rfl, _, i64w (by omega) (by omega), s.length - (k + N), by omega, (hk25.trans hk26).trans hk27, k + N, k + N, acc ++ (s.drop a).take (k - a) ++ ([92, 117, 50, 48, 50] ++ [hexD (C % 16)]), by omega, by omega, by omega, by omega, rfl, ?_, ?_, hun, ?_⟩
              · have e1 : l ++ (acc ++ (s.drop a).take (k - a) ++ ([92, 117, 50, 48, 50] ++ [hexD (C % 16)])) = l ++ (acc ++ (s.drop a).take (k - a)) ++ [92, 117, 50, 48, 50] ++ [hexD (C % 16)] := by simp [List.append_assoc]
                rw [e1]; exact hb27
              · simp only [List.length_append, pend, List.length_cons, List.length_nil]; omega
              · rw [hesc, hcons]
                have : piece esc ((s.drop k).take N) C = [92, 117, 50, 48, 50] ++ [hexD (C % 16)] := by
                  unfold piece
                  rw [if_neg (by omega), if_neg (by omega), if_neg (by omega), if_pos hc, hd]
                rw [this]; simp [List.append_assoc]
            exact flush w22 K5 hk22' hb22 key5
          · have hc : ¬ (C = 8232 ∨ C = 8233) := fun e => by rw [hq.2 e] at hqf; cases hqf
            refine ⟨_, i64w (by omega) (by omega), s.length - (k + N), by omega, hk22', a, k + N, acc, rfl, by omega, by omega, by omega, rfl, hb22, by omega, hun, ?_⟩
            rw [hesc, hcons, seg_step s a k N hak]
            have : piece esc ((s.drop k).take N) C = (s.drop k).take N := by
              unfold piece
              rw [if_neg (by omega), if_neg (by omega), if_neg (by omega), if_neg hc]
            rw [this]; simp [List.append_assoc]
        refine ⟨fun h => key4 _ ?_, fun h => key4 _ ?_⟩
        · have h := of_decide_eq_true h
          simp only [true_iff]; omega
        · have h := of_decide_eq_false h
          simp only [decide_eq_true_eq]; omega
      intro K6 hK6
      have key6 : ∀ q : Bool, q = false → K6 q w22 := by
        intro q hq
        exact hK6 q w22 ⟨fun h => (by rw [hq] at h; cases h), fun _ => key3⟩
      exact ⟨fun _ => key6 _ (decide_eq_false (by omega)), fun _ => key6 _ rfl⟩
  · have h := of_decide_eq_false h
    have hk : k = s.length := by omega
    have hd : s.drop k = [] := List.drop_eq_nil_of_le (by omega)
    rw [hd, escF_nil, List.append_nil] at hesc
    have hta : (s.drop a).take (k - a) = s.drop a := List.take_of_length_le (by rw [List.length_drop]; omega)
    rw [hta] at hesc
    have hfin : l ++ strF esc s = l ++ acc ++ s.drop a ++ [34] := by
      have : strF esc s = (34 :: escF esc s) ++ [34] := rfl
      rw [this, hesc]; simp [List.append_assoc]
    rw [hfin]
    refine ⟨fun h1 => ⟨⟨by omega, by omega⟩, ?_⟩, fun h1 => ?_⟩
    · rw [Int.toNat_natCast]
      refine (hb2.str (s.drop a) (by simp only [List.length_append, List.length_drop]; omega)).mono ?_
      rintro e w33 ⟨rfl, hb33, hk33⟩
      refine ⟨_, rfl, (hb33.byte 34 (by simp only [List.length_append, List.length_drop]; omega)).mono ?_⟩
      rintro e w34 ⟨rfl, hb34, hk34⟩
      exact ⟨rfl, rfl, hb34, (hk2.trans hk33).trans hk34⟩
    · have h1 := of_decide_eq_false h1
      have : s.drop a = [] := List.drop_eq_nil_of_le (by omega)
      rw [this, List.append_nil]
      refine (hb2.byte 34 (by simp only [List.length_append]; omega)).mono ?_
      rintro e w34 ⟨rfl, hb34, hk34⟩
      exact ⟨rfl, rfl, hb34, hk2.trans hk34⟩
end Go.Proofs.Tryz
