/- Parts of a proof, joined: V1, B38, B39, VW, B25, Dp. -/
import Derived.Test.YtfofafjemgfobaaGreatDoorX4
import Derived.Test.YtfofafjemgfobaaGreatDoorX26
import Derived.Test.YtfofafjemgfobaaGreatDoorX22
import Derived.Test.YtfofafjemgfobaaGreatDoorX9
set_option linter.unusedVariables false
set_option maxRecDepth 100000
namespace Go.Proofs.Tryz
open Go.Vc
def VC53 (ac : Int) (ad : Ptr) (ae af : Nat) (w : World) (R : RR) : Prop :=
 ∀ w1, w1 = w.alloc (.cells ⟨[.int .u8 ac, .slice ad ae af]⟩ 92) →
 ∃ x6 : Int, ∃ (ab : Ptr) (ag ah : Nat), LoadsRow prog 92 w1 ⟨w.heap.size, 0, none⟩ [.int .u8 x6, .slice ab ag ah] ∧
 Calls prog 52 ⟨[.agg ⟨[.int .u8 x6, .slice ab ag ah]⟩, .int .i64 (-1)]⟩ w1 fun e w2 => ∃ x7 : Bs, ∃ aa : Bool, e = .returned (.tuple ⟨[.string (mkS x7), .bool aa]⟩) ∧
 R (.string (mkS x7)) w2
def an53 : Ann :=
 .k .z
 (.k (.t [.s [.int .u8, .slice], .s [.str, .bool]])
 .zl)
theorem c53 (aa : Int) (ab : Ptr) (ac ad : Nat) (w : World) (R : RR) (hvc : VC53 aa ab ac ad w R) : CR 53 [.agg ⟨[.int .u8 aa, .slice ab ac ad]⟩] w R :=
 vcc (fn := f53) (ann := an53) hvc (by kernel_rfl) (by kernel_rfl)
end Go.Proofs.Tryz
set_option linter.unusedVariables false
namespace Go.Proofs.Tryz
open Go.Vc Go.RowKit Go.Sort
theorem u130 : prog.underlying 130 = some (.slice 5) := by kernel_rfl
theorem conv_string130 {w : World} {p : Option Addr} {n c : Nat} {l : List UInt8} (h : ReadsB w p l) (hn : n = l.length) : (convert 130 9 (.slice p n c)).run prog w = .ok (.string (mkS l)) w := by
  subst hn
  cases p with
  | none =>
    have : l = [] := by
      cases l with
      | nil => rfl
      | cons b r => obtain ⟨a, ha, _⟩ := h 0 b rfl; cases ha
    subst this
    exact run_convert_bytes_nil w 130 5 u130 u5 _ _ 9 u9
  | some a => exact run_convert_bytes_back w 130 9 5 a c l u130 u5 u9 (fun j hj => h.at (List.getElem?_eq_getElem hj))
theorem nT_pre {a t : List UInt8} {nx need : Int} (ha : utf8F a = true) (h : (nx < 0 ∧ need < 0) ∨ (0 ≤ need ∧ need = nx - (a.length : Int))) : cutX (a ++ t) nx = a ++ cutX t need ∧ lessT (a ++ t) nx = lessT t need := by
  rcases h with ⟨h1, h2⟩ | ⟨h1, h2⟩
  · rw [nT_neg h1, nT_neg h2, lessT_neg h1, lessT_neg h2]; exact ⟨rfl, rfl⟩
  · rw [nT_pos h1, nT_pos (by omega), cutT_right t ha (by omega), show nx.toNat - a.length = need.toNat by omega]
    refine ⟨rfl, ?_⟩
    rcases (by omega : need < (t.length : Int) ∨ (t.length : Int) ≤ need) with h | h
    · rw [lessT_true h1 h, lessT_true (by omega) (by rw [List.length_append]; omega)]
    · rw [lessT_false h, lessT_false (by rw [List.length_append]; omega)]
theorem cutV_at {a t : List UInt8} {nx : Int} (ha : utf8F a = true) (ht : t ≠ []) (hn : nx = (a.length : Int)) : cutV (a ++ t) nx = .tuple ⟨[.string (mkS a), .bool true]⟩ := by
  have hl := List.length_pos_iff.2 ht
  unfold cutV
  rw [nT_pos (by omega), cut_at ⟨t, rfl⟩ ha (by omega), lessT_true (by omega) (by rw [List.length_append]; omega)]
theorem ret53 {F : Nat → List UInt8} {d : Nat} {y : Val} (h52 : Val52 F d y) (p : Option Addr) (n c : Nat) (w : World) (hw : Pre w) (hr : ReadsB w p (bytesV (d + 1) y)) (hn : n = (bytesV (d + 1) y).length) (hc : n ≤ c) :
    Ret 53 [rawV y.kind p n c] w (.string (mkS (longV F (d + 1) y))) := by
  refine Ret.of (c53 _ p n c w _ ?_)
  unfold VC53
  intro w1 hw1
  have hk1 : Keeps w w1 := by rw [hw1]; exact (Keeps.refl w).alloc _
  have hv1 : Var w1 w.heap.size 92 [.int .u8 y.kind, .slice p n c] := by rw [hw1]; exact var_alloc w _ 92
  refine ⟨_, _, _, _, hv1.lies.row n92, (h52 p n c (-1) w1 (hw.keeps hk1) (hr.keeps hk1) hn hc (by decide) (by decide)).go fun w2 hk2 => ⟨_, _, rfl, ?_⟩⟩
  rw [nT_neg (by decide)]
  exact ⟨rfl, hk1.trans hk2⟩
theorem ret77 {F : Nat → List UInt8} (d : Nat) (nm : List UInt8) (y : Val) (hnm : NameOK nm) (hgood : GoodB (bytesV d) y) (h52 : Val52 F d y) (hlu : utf8F (longV F (d + 1) y) = true) (hll : (longV F (d + 1) y).length ≤ 50000000) (hl0 : longV F (d + 1) y ≠ [])
    (h85 : y.kind = 4 → ∀ (p : Option Addr) (n c : Nat) (nx : Int) (w : World), Pre w → ReadsB w p (bytesV (d + 1) y) → n = (bytesV (d + 1) y).length → n ≤ c → -1000000 ≤ nx → nx ≤ 1000000 → Ret 85 [.slice p n c, .int .i64 nx] w (cutV (longV F (d + 1) y) nx))
    (hbl : (bytesV (d + 1) y).length ≤ 5000000) (p : Option Addr) (n c : Nat) (nx : Int) (w : World) (hw : Pre w) (hr : ReadsB w p (elemV nm y (bytesV (d + 1) y))) (hn : n = (elemV nm y (bytesV (d + 1) y)).length) (hc : n ≤ c) (h0 : -1000000 ≤ nx) (h9 : nx ≤ 1000000) :
    Ret 77 [.slice p n c, .int .i64 nx] w (cutV (memT (longV F (d + 1)) (nm, y)) nx) := by
  obtain ⟨hn0, hnz, hnu, hnl⟩ := hnm
  obtain ⟨t, ht⟩ : ∃ t, t = longV F (d + 1) y := ⟨_, rfl⟩
  obtain ⟨pre, hpre⟩ : ∃ pre, pre = [34] ++ nm ++ [34, 58, 32] := ⟨_, rfl⟩
  have hpu : utf8F pre = true := by rw [hpre]; exact utf8_mid (asc_dec (by decide)) hnu (asc_dec (by decide))
  have hpl : pre.length = nm.length + 4 := by rw [hpre]; simp only [List.length_append, List.length_cons, List.length_nil]; omega
  have hnp := List.length_pos_iff.2 hn0
  have es : memT (longV F (d + 1)) (nm, y) = pre ++ t := by rw [hpre, ht]; rfl
  rw [es]
  have hV : bytesT (bytesV d) y = bytesV (d + 1) y := rfl
  have hel := elemV_len nm y (bytesV (d + 1) y)
  have hk8 := kind_byte hgood.right
  have ee : elemV nm y (bytesV (d + 1) y) = [b8 y.kind] ++ (nm ++ 0 :: bytesV (d + 1) y) := by unfold elemV; simp
  refine Ret.of (c77 p n c nx w _ ?_)
  unfold VC77
  refine ⟨fun h => absurd (of_decide_eq_true h) (by omega), fun _ => ⟨fun hz => ?_, fun hz => ⟨fun h1 => ?_, fun h1 => ?_⟩⟩⟩
  · have hz : nx = 0 := of_decide_eq_true hz
    subst hz
    exact ⟨(cutV_zero (by rw [hpre]; simp)).symm, Keeps.refl w⟩
  · have h1 : nx = 1 := of_decide_eq_true h1
    subst h1
    refine ⟨?_, Keeps.refl w⟩
    have : pre ++ t = [34] ++ (nm ++ [34, 58, 32] ++ t) := by rw [hpre]; simp
    rw [this]
    exact (cutV_at (a := [34]) (asc_utf8 _ (asc_dec (by decide))) (by simp) rfl).symm
  have hz : nx ≠ 0 := of_decide_eq_false hz
  have h1 : nx ≠ 1 := of_decide_eq_false h1
  obtain ⟨exa, hexa, hx0⟩ := hr 0 (b8 y.kind) rfl
  rw [Addr.add_zero', hk8] at hx0
  have hrn : ReadsB w (slAddr p c 1 1) (nm ++ 0 :: bytesV (d + 1) y) := reads_from (a := [b8 y.kind]) (ee ▸ hr) (by rw [← ee]; omega)
  refine ⟨⟨Int.le_refl 0, by omega⟩, exa, hexa, y.kind, hx0, ⟨by decide, by omega, by omega⟩, ?_⟩
  refine (ret136 (slAddr p c 1 1) (n - 1) (c - 1) nm (bytesV (d + 1) y) w hnz hrn (by rw [hn, hel]; simp only [List.length_append, List.length_cons]; omega)).go fun w1 hk1 => ⟨_, rfl, fun h => absurd (of_decide_eq_true h) (by omega), fun _ => ?_⟩
  refine ⟨(nm.length : Int) + 1, i64w (by omega) (by omega), ⟨by decide, by omega, by omega⟩, ?_⟩
  have hw1 := hw.keeps hk1
  have hr1 := hr.keeps hk1
  have hrn1 := (hrn.keeps hk1).left
  intro w2 hw2
  have hb2 : Bld w1.heap.size [] w2 := by rw [hw2]; exact Bld.new w1
  have hk2 : Keeps w1 w2 := by rw [hw2]; exact (Keeps.refl w1).alloc _
  refine (hb2.byte 34 (by simp)).mono ?_
  rintro _ w3 ⟨rfl, hb3, hk3⟩
  have hk13 : Keeps w1 w3 := Below.trans hk2 hk3
  have hb3 : Bld w1.heap.size [34] w3 := hb3
  refine ⟨rfl, ?_⟩
  intro Kx hK
  -- the end: what was written is the text
  have out : ∀ (tr' : Bool) (w5 : World) (l : List UInt8), Bld w1.heap.size l w5 → Keeps w1 w5 → cutV (pre ++ t) nx = .tuple ⟨[.string (mkS l), .bool tr']⟩ →
      Calls prog 79 ⟨[.pointer (some (⟨w1.heap.size, 0, none⟩))]⟩ w5 fun e w6 => ∃ x95 : List UInt8, e = .returned (.string (mkS x95)) ∧ (Value.tuple ⟨[.string (mkS x95), .bool tr']⟩ = cutV (pre ++ t) nx ∧ Keeps w w6) := by
    intro tr' w5 l hb5 hk5 e1
    refine hb5.out.mono ?_
    rintro _ w6 ⟨rfl, hk6⟩
    exact ⟨_, rfl, e1.symm, hk1.trans (Below.trans hk5 hk6)⟩
  have kx : ∀ w4, Keeps w1 w4 → Bld w1.heap.size pre w4 → (0 < nx → (pre.length : Int) ≤ nx) → Kx w4 := by
    intro w4 hk4 hb4 hroom
    refine hK w4 ?_
    intro K1 hK1
    have k1 : ∀ (need : Int) (w5 : World), Keeps w1 w5 → Bld w1.heap.size pre w5 → ((nx < 0 ∧ need = -1) ∨ (0 < need ∧ need = nx - (pre.length : Int))) → K1 need w5 := by
      intro need w5 hk5 hb5 hneed
      have hnt := nT_pre (t := t) hpu (hneed.imp (fun ⟨a, b⟩ => ⟨a, (by omega : need < 0)⟩) (fun ⟨a, b⟩ => ⟨(by omega : 0 ≤ need), b⟩))
      have hcv : cutV (pre ++ t) nx = .tuple ⟨[.string (mkS (pre ++ cutX t need)), .bool (lessT t need)]⟩ := by unfold cutV; rw [hnt.1, hnt.2]
      have hx86 : ((nm.length : Int) + 2).toNat = nm.length + 2 := by omega
      refine hK1 need w5 ⟨(nm.length : Int) + 2, i64w (by omega) (by omega), ⟨by omega, by omega, by omega⟩, ?_⟩
      rw [hx86]
      have hrv : ReadsB w1 (slAddr p c (nm.length + 2) 1) (bytesV (d + 1) y) := by
        have := reads_from (a := [b8 y.kind] ++ nm ++ [0]) (b := bytesV (d + 1) y) (c := c) hr1 (by have : ([b8 y.kind] ++ nm ++ [0] ++ bytesV (d + 1) y).length = nm.length + 2 + (bytesV (d + 1) y).length := hel; omega)
        have e3 : ([b8 y.kind] ++ nm ++ [0] : List UInt8).length = nm.length + 2 := by simp
        rwa [e3] at this
      obtain ⟨q, hq⟩ : ∃ q, q = slAddr p c (nm.length + 2) 1 := ⟨_, rfl⟩
      rw [← hq] at hrv ⊢
      have hm : n - (nm.length + 2) = (bytesV (d + 1) y).length := by omega
      rw [hm]
      obtain ⟨cc, hcc⟩ : ∃ cc, cc = c - (nm.length + 2) := ⟨_, rfl⟩
      have hmc : (bytesV (d + 1) y).length ≤ cc := by omega
      rw [← hcc]
      refine (ret138 (bytesV d) y (bytesV (d + 1) y) [] hV q (bytesV (d + 1) y).length cc w5 hgood (by rw [List.append_nil]; exact hrv.keeps hk5) (by rw [List.append_nil]) hmc (by omega)).go fun w6 hk6 => ⟨_, _, _, _, _, rfl, fun w7 hw7 => ?_⟩
      obtain ⟨w8, hst8, hk68, hs8, hv8⟩ := store_new (t := 92) (cs := [.int .u8 y.kind, .slice q (bytesV (d + 1) y).length cc]) hw7 n92 rfl rfl rfl
      have hk58 := hk6.trans hk68
      have hk18 := hk5.trans hk58
      have hb8' := hb5.keeps hk58
      refine ⟨w8, hst8, (fun h => by cases h), fun _ => ?_⟩
      -- what is written behind
      have fin : ∀ (w10 : World) (x : List UInt8) (tr : Bool), Keeps w8 w10 → x = cutX t need → tr = lessT t need →
          Calls prog 78 ⟨[.pointer (some (⟨w1.heap.size, 0, none⟩)), .string (mkS x)]⟩ w10 fun e w11 => ∃ x133 : Int, e = .returned (.tuple ⟨[.int .i64 x133, .nilIface]⟩) ∧
            Calls prog 79 ⟨[.pointer (some (⟨w1.heap.size, 0, none⟩))]⟩ w11 fun e w12 => ∃ x134 : List UInt8, e = .returned (.string (mkS x134)) ∧ (Value.tuple ⟨[.string (mkS x134), .bool tr]⟩ = cutV (pre ++ t) nx ∧ Keeps w w12) := by
        intro w10 x tr hk10 hx htr
        subst hx htr
        have hnl := nT_len t need
        refine ((hb8'.keeps hk10).str (cutX t need) (by rw [← ht] at hll; omega)).mono ?_
        rintro _ w11 ⟨rfl, hb11, hk11⟩
        exact ⟨_, rfl, out _ w11 _ hb11 (Below.trans (hk18.trans hk10) hk11) hcv⟩
      have hneed9 : -1000000 ≤ need ∧ need ≤ 1000000 := by omega
      have hrv8 := hrv.keeps hk18
      refine ⟨_, _, _, _, hv8.lies.row n92, ?_⟩
      by_cases hk2' : y.kind = 2
      · have hdt : bytesV (d + 1) y = docText y.text := by show bytesT (bytesV d) y = _; unfold bytesT; rw [if_neg (by omega), if_pos (.inl hk2')]
        have h81 := ret81 y.text q (bytesV (d + 1) y).length cc w8 (by have := textF_len hgood.own.1; omega) (hdt ▸ hrv8) (by rw [hdt]) hmc
        rw [← hk2'] at h81
        refine h81.go fun w9 hk9 => ⟨_, _, rfl, fun _ => ?_, (fun h => by cases h)⟩
        refine ⟨_, _, _, _, (hv8.keeps hk9).lies.row n92, ?_⟩
        refine (h52 q _ cc need w9 (hw1.keeps (hk18.trans hk9)) (hrv8.keeps hk9) rfl hmc hneed9.1 hneed9.2).go fun w10 hk10 => ⟨_, _, rfl, ?_⟩
        rw [← ht]
        exact fin w10 _ _ (hk9.trans hk10) rfl rfl
      · refine (ret81n y.kind hk2' q (bytesV (d + 1) y).length cc w8).go fun w9 hk9 => ⟨_, _, rfl, (fun h => by cases h), fun _ => ?_⟩
        refine ⟨_, _, _, _, (hv8.keeps hk9).lies.row n92, ?_⟩
        by_cases hk4' : y.kind = 4
        · obtain ⟨m4, hV4⟩ : ∃ m4, bytesV (d + 1) y = le32 ((bytesV (d + 1) y).length : Int) ++ m4 := by
            have hdb : bytesV (d + 1) y = docB (bytesV d) y.kids := by show bytesT (bytesV d) y = _; unfold bytesT; rw [if_neg (by omega), if_neg (by omega), if_pos (.inr hk4')]
            refine ⟨bodyB (bytesV d) y.kids ++ [0], ?_⟩
            rw [hdb]
            have e5 : docB (bytesV d) y.kids = le32 (((bodyB (bytesV d) y.kids).length : Int) + 5) ++ (bodyB (bytesV d) y.kids ++ [0]) := by unfold docB; rw [List.append_assoc]
            have el := congrArg List.length e5
            simp only [List.length_append, le32_len, List.length_cons, List.length_nil] at el
            have e6 : ((docB (bytesV d) y.kids).length : Int) = ((bodyB (bytesV d) y.kids).length : Int) + 5 := by omega
            rw [e6]; exact e5
          have h44 : 4 ≤ (bytesV (d + 1) y).length := by
            have := congrArg List.length hV4
            rw [List.length_append, le32_len] at this; omega
          have h84 := ret84 (bytesV (d + 1) y) m4 hV4 h44 q (bytesV (d + 1) y).length cc w9 (hrv8.keeps hk9) rfl hmc (by omega)
          rw [← hk4'] at h84
          refine h84.go fun w13 hk13' => ⟨_, _, _, _, rfl, fun _ => ?_, (fun h => by cases h)⟩
          have hk913 := hk9.trans hk13'
          refine (h85 hk4' q _ cc need w13 (hw1.keeps (hk18.trans hk913)) (hrv8.keeps hk913) rfl hmc hneed9.1 hneed9.2).go fun w14 hk14 => ⟨_, _, rfl, ?_⟩
          rw [← ht]
          exact fin w14 _ _ (hk913.trans hk14) rfl rfl
        · refine (ret84n y.kind hk4' q (bytesV (d + 1) y).length cc w9).go fun w13 hk13' => ⟨_, _, _, _, rfl, (fun h => by cases h), fun _ => ?_⟩
          have hk913 := hk9.trans hk13'
          refine ⟨_, _, _, _, (hv8.keeps hk913).lies.row n92, ?_⟩
          refine (ret53 h52 q _ cc w13 (hw1.keeps (hk18.trans hk913)) (hrv8.keeps hk913) rfl hmc).go fun w17 hk17 => ⟨_, rfl, ?_⟩
          rw [← ht]
          have hk917 := hk913.trans hk17
          refine ⟨fun hp => ⟨fun hx => ?_, fun hx => ?_⟩, fun hp => ?_⟩
          · have hp := of_decide_eq_true hp
            have hx := of_decide_eq_true hx
            obtain ⟨N, rfl⟩ : ∃ N : Nat, need = N := ⟨need.toNat, by omega⟩
            refine (ret108 t N (ht ▸ hlu) (by rw [ht]; omega) (by omega) w17).go fun w18 hk18' => ⟨_, rfl, ?_⟩
            exact fin w18 _ true (hk917.trans hk18') (by rw [nT_pos (by omega)]; rfl) (lessT_true (by omega) hx).symm
          · have hp := of_decide_eq_true hp
            have hx := of_decide_eq_false hx
            exact fin w17 t false hk917 (nT_full (ht ▸ hlu) (by omega)).symm (lessT_false (by omega)).symm
          · have hp := of_decide_eq_false hp
            exact fin w17 t false hk917 (nT_neg (by omega)).symm (lessT_neg (by omega)).symm
    refine ⟨fun hp => ?_, fun hp => ?_⟩
    · have hp := of_decide_eq_true hp
      refine hb4.len.mono ?_
      rintro _ w25 ⟨rfl, rfl⟩
      refine ⟨_, rfl, fun hx => ?_, fun hx => ?_⟩
      · have hx := of_decide_eq_true hx
        refine out true w25 pre hb4 hk4 ?_
        rcases (by omega : nx < (pre.length : Int) ∨ nx = (pre.length : Int)) with h | h
        · have := hroom hp; omega
        · exact cutV_at hpu (ht ▸ hl0) h
      · have hx := of_decide_eq_false hx
        refine hb4.len.mono ?_
        rintro _ w27 ⟨rfl, rfl⟩
        exact ⟨_, rfl, nx - (pre.length : Int), i64w (by omega) (by omega), k1 _ w27 hk4 hb4 (.inr ⟨by omega, rfl⟩)⟩
    · have hp := of_decide_eq_false hp
      exact k1 (-1) w4 hk4 hb4 (.inl ⟨by omega, rfl⟩)
  intro K2 hK2
  have hwr : ∀ (w28 : World), Keeps w1 w28 → Bld w1.heap.size [34] w28 → Calls prog 137 ⟨[.pointer (some (⟨w1.heap.size, 0, none⟩)), .slice (slAddr p c 1 1) (((nm.length : Int) + 1).toNat - 1) (c - 1)]⟩ w28 fun e w29 =>
      e = .returned (.tuple ⟨[.int .i64 (nm.length : Int), .nilIface]⟩) ∧ Bld w1.heap.size ([34] ++ nm) w29 ∧ Keeps w1 w29 := by
    intro w28 hk28 hb28
    have e1 : ((nm.length : Int) + 1).toNat - 1 = nm.length := by omega
    rw [e1]
    refine (hb28.write nm (slAddr p c 1 1) nm.length (c - 1) (fun w' hk' => hrn1.keeps (Below.trans hk28 hk')) rfl (fun h => ?_) (by simp only [List.length_cons, List.length_nil]; omega)).mono ?_
    · obtain ⟨a0, ha0, _⟩ := hrn1 0 _ (List.getElem?_eq_getElem hnp)
      rw [h] at ha0; cases ha0
    · rintro e w29 ⟨he, hb29, hk29⟩
      exact ⟨he, hb29, Below.trans hk28 hk29⟩
  have k2 : ∀ (x : Bool) (w28 : World), Keeps w1 w28 → Bld w1.heap.size [34] w28 → (x = true → 0 < nx → (nm.length : Int) + 4 ≤ nx) → (x = false → 0 < nx ∧ nx < (nm.length : Int) + 4) → K2 x w28 := by
    intro x w28 hk28 hb28 hx1 hx0
    refine hK2 x w28 ⟨fun hx => ?_, fun hx => ⟨fun hlt => ?_, fun hlt => ?_⟩⟩
    · refine (hwr w28 hk28 hb28).mono ?_
      rintro _ w29 ⟨rfl, hb29, hk29⟩
      refine ⟨_, rfl, (hb29.str [34, 58, 32] (by simp only [List.length_append, List.length_cons, List.length_nil]; omega)).mono ?_⟩
      rintro _ w30 ⟨rfl, hb30, hk30⟩
      exact ⟨_, rfl, kx w30 (Below.trans hk29 hk30) (by rw [hpre]; exact hb30) (fun h => by have := hx1 hx h; omega)⟩
    · obtain ⟨hp0, hp1⟩ := hx0 hx
      have hlt := of_decide_eq_true hlt
      refine (hwr w28 hk28 hb28).mono ?_
      rintro _ w29 ⟨rfl, hb29, hk29⟩
      obtain ⟨j, hj⟩ : ∃ j : Nat, nx - (nm.length : Int) - 1 = j := ⟨(nx - (nm.length : Int) - 1).toNat, by omega⟩
      have hj3 : j < 3 := by omega
      have e3 : ([34, 58, 32] : List UInt8).length = 3 := rfl
      refine ⟨_, rfl, nx - (nm.length : Int), i64w (by omega) (by omega), (j : Int), by rw [i64w (by omega) (by omega)]; exact hj, ⟨by omega, by simp only [List.length_cons, List.length_nil]; omega⟩, ?_⟩
      rw [Int.toNat_natCast]
      have htl : (([34, 58, 32] : List UInt8).take j).length = j := by rw [List.length_take, e3]; omega
      refine (hb29.str (([34, 58, 32] : List UInt8).take j) (by rw [htl]; simp only [List.length_append, List.length_cons, List.length_nil]; omega)).mono ?_
      rintro _ w32 ⟨rfl, hb32, hk32⟩
      refine ⟨_, rfl, out true w32 _ hb32 (Below.trans hk29 hk32) ?_⟩
      have e4 : pre ++ t = ([34] ++ nm ++ ([34, 58, 32] : List UInt8).take j) ++ (([34, 58, 32] : List UInt8).drop j ++ t) := by
        rw [hpre]
        simp only [List.append_assoc]
        rw [← List.append_assoc (([34, 58, 32] : List UInt8).take j), List.take_append_drop]
      rw [e4]
      refine cutV_at (utf8_mid (asc_dec (by decide)) hnu (asc.take (asc_dec (by decide)))) ?_ (by simp only [List.length_append, htl, List.length_cons, List.length_nil]; omega)
      intro h
      have := congrArg List.length h
      have hlt0 := List.length_pos_iff.2 hl0
      rw [List.length_append, ht, List.length_nil] at this; omega
    · obtain ⟨hp0, hp1⟩ := hx0 hx
      have hlt := of_decide_eq_false hlt
      have e1 : ((nm.length : Int) + 1).toNat - 1 = nm.length := by omega
      rw [e1]
      refine ⟨nm, w28, conv_string130 (hrn1.keeps hk28) rfl, nx - 1, i64w (by omega) (by omega), ?_⟩
      obtain ⟨N, hN⟩ : ∃ N : Nat, nx - 1 = N := ⟨(nx - 1).toNat, by omega⟩
      rw [hN]
      refine (ret108 nm N hnu (by omega) (by omega) w28).go fun w35 hk35 => ⟨_, rfl, ?_⟩
      have hcl := cutT_len nm N
      refine ((hb28.keeps hk35).str (cutT nm N) (by simp only [List.length_cons, List.length_nil]; omega)).mono ?_
      rintro _ w36 ⟨rfl, hb36, hk36⟩
      refine ⟨_, rfl, out true w36 _ hb36 (Below.trans (hk28.trans hk35) hk36) ?_⟩
      have e4 : pre ++ t = [34] ++ (nm ++ ([34, 58, 32] ++ t)) := by rw [hpre]; simp
      unfold cutV
      rw [e4, nT_pos (by omega), cut_in (asc_utf8 _ (asc_dec (by decide))) hnu (by simp only [List.length_cons, List.length_nil]; omega) (by simp only [List.length_cons, List.length_nil]; omega), lessT_true (by omega) (by simp only [List.length_append, List.length_cons, List.length_nil]; omega)]
      rw [show nx.toNat - ([34] : List UInt8).length = N by simp only [List.length_cons, List.length_nil]; omega]
  refine ⟨fun hneg => ?_, fun hneg => ?_⟩
  · have hneg := of_decide_eq_true hneg
    exact k2 true w3 hk13 hb3 (fun _ h => by omega) (fun h => by cases h)
  · have hneg := of_decide_eq_false hneg
    refine hb3.len.mono ?_
    rintro _ w38 ⟨rfl, rfl⟩
    refine ⟨1, rfl, nx - 1, i64w (by omega) (by omega), nx - 1 - 3, i64w (by omega) (by omega), ?_⟩
    refine k2 _ w38 hk13 hb3 (fun h _ => ?_) (fun h => ?_)
    · have := of_decide_eq_true h; omega
    · have := of_decide_eq_false h; exact ⟨by omega, by omega⟩
def El77 (F : Nat → List UInt8) (d : Nat) (nm : List UInt8) (y : Val) : Prop := ∀ (p : Option Addr) (n c : Nat) (nx : Int) (w : World), Pre w → ReadsB w p (elemV nm y (bytesV (d + 1) y)) → n = (elemV nm y (bytesV (d + 1) y)).length → n ≤ c → -1000000 ≤ nx → nx ≤ 1000000 →
    Ret 77 [.slice p n c, .int .i64 nx] w (cutV (memT (longV F (d + 1)) (nm, y)) nx)
theorem ret45 {F : Nat → List UInt8} (e : Nat) (ks : List (List UInt8 × Val)) (hks : ∀ n y, (n, y) ∈ ks → (0 : UInt8) ∉ n ∧ utf8F (memT (longV F e) (n, y)) = true ∧ ∃ d, e = d + 1 ∧ GoodB (bytesV d) y ∧ El77 F d n y)
    (hlen : (bodyB (bytesV e) ks).length ≤ 5000000) (s : List UInt8) (hs : s = [123] ++ joinK (ks.map (memT (longV F e))) ++ [125]) (hsl : s.length ≤ 50000000)
    (p : Option Addr) (n c : Nat) (nx : Int) (w : World) (hw : Pre w) (hr : ReadsB w p (docB (bytesV e) ks)) (hn : n = (docB (bytesV e) ks).length) (hc : n ≤ c) (h0 : -1000000 ≤ nx) (h9 : nx ≤ 1000000) :
    Ret 45 [.slice p n c, .int .i64 nx] w (cutV s nx) := by
  obtain ⟨ps, hps⟩ : ∃ ps, ps = ks.map (memT (longV F e)) := ⟨_, rfl⟩
  rw [← hps] at hs
  have hpl : ps.length = ks.length := by rw [hps, List.length_map]
  have hu : ∀ q ∈ ps, utf8F q = true := by
    intro q hq
    rw [hps] at hq
    obtain ⟨⟨m, y⟩, hm, rfl⟩ := List.mem_map.1 hq
    exact (hks m y hm).2.1
  have ho : (123 : UInt8).toNat < 128 := by decide
  have hcl : (125 : UInt8).toNat < 128 := by decide
  have hsu : utf8F s = true := by
    have := mid_utf8 hu ho ps.length
    rw [List.take_length] at this
    rw [hs]; exact utf8F_append this (asc_utf8 _ (asc_dec (by decide)))
  have hsn : s ≠ [] := by rw [hs]; simp
  have e1 : docB (bytesV e) ks = le32 (((bodyB (bytesV e) ks).length : Int) + 5) ++ (bodyB (bytesV e) ks ++ [0]) := by unfold docB; rw [List.append_assoc]
  have el := congrArg List.length e1
  simp only [List.length_append, le32_len, List.length_cons, List.length_nil] at el
  have hrd : ReadsB w (slAddr p c 4 1) (bodyB (bytesV e) ks ++ [0]) := by
    have := reads_from (a := le32 (((bodyB (bytesV e) ks).length : Int) + 5)) (b := bodyB (bytesV e) ks ++ [0]) (c := c) (e1 ▸ hr) (by rw [← e1]; omega)
    rwa [le32_len] at this
  refine Ret.of (c45 p n c nx w _ ?_)
  unfold VC45
  refine (ret73 p n c (((bodyB (bytesV e) ks).length : Int) + 5) (bodyB (bytesV e) ks ++ [0]) w (by omega) (by omega) (e1 ▸ hr) (e1 ▸ hn) hc).go fun w1 hk1 => ⟨_, _, _, _, _, rfl, (fun h => by cases h), fun _ => ⟨fun h => absurd (of_decide_eq_true h) (by omega), fun _ =>
    ⟨((bodyB (bytesV e) ks).length : Int) + 1, by rw [i32w (by omega) (by omega)]; omega, ((bodyB (bytesV e) ks).length : Int), by rw [i32w (by omega) (by omega)]; omega, fun hz => ?_, fun hz => ?_⟩⟩⟩
  · have hz : nx = 0 := of_decide_eq_true hz
    subst hz
    exact ⟨(cutV_zero hsn).symm, hk1⟩
  have hz : nx ≠ 0 := of_decide_eq_false hz
  have hrd1 := hrd.keeps hk1
  have hw1 := hw.keeps hk1
  intro w2 hw2
  have hb2 : Bld w1.heap.size [] w2 := by rw [hw2]; exact Bld.new w1
  have hk2 : Keeps w1 w2 := by rw [hw2]; exact (Keeps.refl w1).alloc _
  refine (hb2.byte 123 (by simp)).mono ?_
  rintro _ w3 ⟨rfl, hb3, hk3⟩
  have hk13 : Keeps w1 w3 := Below.trans hk2 hk3
  refine ⟨rfl, ?_⟩
  intro Kx hK
  have key : ∀ (tr : Bool) (w4 : World) (buf : List UInt8), Bld w1.heap.size buf w4 → Keeps w1 w4 → FinT s 125 nx tr buf → Kx tr w4 := by
    intro tr w4 buf hb4 hk4 hf
    have hbl : buf.length ≤ s.length := by
      rcases hf with ⟨_, h, _⟩ | ⟨_, _, _, h⟩
      · rw [h, List.length_append]; omega
      · rw [h]; unfold cutT; rw [List.length_take]; omega
    have out : ∀ (tr' : Bool) (w5 : World) (l : List UInt8), Bld w1.heap.size l w5 → Keeps w1 w5 → cutX s nx = l → lessT s nx = tr' →
        Calls prog 79 ⟨[.pointer (some (⟨w1.heap.size, 0, none⟩))]⟩ w5 fun e w6 => ∃ x95 : List UInt8, e = .returned (.string (mkS x95)) ∧ (Value.tuple ⟨[.string (mkS x95), .bool tr']⟩ = cutV s nx ∧ Keeps w w6) := by
      intro tr' w5 l hb5 hk5 e1 e2
      refine hb5.out.mono ?_
      rintro _ w6 ⟨rfl, hk6⟩
      exact ⟨_, rfl, by unfold cutV; rw [e1, e2], hk1.trans (Below.trans hk5 hk6)⟩
    refine hK tr w4 ⟨fun h => ?_, fun h => ?_⟩
    · have hneg : nx < 0 := by have := of_decide_eq_true h; omega
      obtain ⟨rfl, hs'⟩ := hf.neg hneg
      refine (hb4.byte 125 (by omega)).mono ?_
      rintro _ w5 ⟨rfl, hb5, hk5⟩
      exact ⟨rfl, out false w5 _ hb5 (Below.trans hk4 hk5) (by rw [nT_neg hneg]; exact hs') (lessT_neg hneg)⟩
    · have hpos : 0 < nx := by have := of_decide_eq_false h; omega
      refine hb4.len.mono ?_
      rintro _ w7 ⟨rfl, rfl⟩
      refine ⟨_, rfl, fun hx => ⟨fun htr => ?_, fun htr => ?_⟩, fun hx => ?_⟩
      · have hx := of_decide_eq_true hx
        cases tr with
        | true => cases htr
        | false =>
          obtain ⟨h1, h2⟩ := hf.room hpos hsu hx
          refine (hb4.byte 125 (by omega)).mono ?_
          rintro _ w5 ⟨rfl, hb5, hk5⟩
          exact ⟨rfl, out false w5 _ hb5 (Below.trans hk4 hk5) h1 h2⟩
      · cases tr with
        | false => cases htr
        | true =>
          obtain ⟨h1, h2⟩ := hf.full hpos hsu hcl (.inl rfl)
          exact out true w7 _ hb4 hk4 h1 h2
      · have hx := of_decide_eq_false hx
        obtain ⟨h1, h2⟩ := hf.full hpos hsu hcl (.inr (by omega))
        exact out true w7 _ hb4 hk4 h1 h2
  refine ⟨fun m length rem rem_n rem_c tr first w' => Keeps w1 w' ∧ ∃ (k : Nat) (buf : List UInt8), Bld w1.heap.size buf w' ∧ MidT s 123 125 ps nx k tr buf ∧ m = ks.length - k ∧ length = ((bodyB (bytesV e) (ks.drop k)).length : Int) ∧
      ReadsB w1 rem (bodyB (bytesV e) (ks.drop k) ++ [0]) ∧ rem_n = (bodyB (bytesV e) (ks.drop k) ++ [0]).length ∧ rem_n ≤ rem_c ∧ first = decide (k = 0),
    ⟨ks.length, hk13, 0, [123], hb3, MidT.start hz, rfl, rfl, hrd1, by rw [List.drop_zero, List.length_append]; simp only [List.length_cons, List.length_nil]; omega, by omega, rfl⟩, ?_⟩
  rintro m length rem rem_n rem_c tr first w12 ⟨hk12, k, buf, hbl, hmid, rfl, rfl, hrr, hrn, hrc, rfl⟩
  have hkle : k ≤ ks.length := by rw [← hpl]; exact hmid.1
  have hbufl : buf.length ≤ s.length := by
    rcases hmid.2 with ⟨_, h, _⟩ | ⟨_, _, _, h⟩
    · rw [h, hs]
      have := joinK_take_le ps k
      simp only [List.length_append, List.length_cons, List.length_nil]; omega
    · rw [h]; unfold cutT; rw [List.length_take]; omega
  refine ⟨fun hpos => ⟨fun htr => ?_, fun htr => ?_⟩, fun hpos => ?_⟩
  · cases tr with
    | true => cases htr
    | false =>
    have hpos := of_decide_eq_true hpos
    have hlt : k < ks.length := by
      rcases Nat.lt_or_ge k ks.length with h | h
      · exact h
      · rw [List.drop_eq_nil_of_le h] at hpos; have hz0 : (bodyB (bytesV e) []).length = 0 := rfl; omega
    rcases hny : ks[k]'hlt with ⟨nm, y⟩
    have hget : ks[k]? = some (nm, y) := by rw [List.getElem?_eq_getElem hlt, hny]
    obtain ⟨hz0, hyu, d, rfl, hgood, h52⟩ := hks nm y (List.mem_of_getElem? hget)
    have hp : ps[k]? = some (memT (longV F (d + 1)) (nm, y)) := by rw [hps, List.getElem?_map, hget]; rfl
    have hV : bytesT (bytesV d) y = bytesV (d + 1) y := rfl
    have hdr := bodyB_drop (bytesV (d + 1)) hget
    have hdl := congrArg List.length hdr
    rw [List.length_append, elemV_len] at hdl
    have hdle := bodyB_drop_le (bytesV (d + 1)) ks k
    rw [hdr, List.append_assoc] at hrr hrn
    have hrn' := hrn
    rw [List.length_append, List.length_append, elemV_len] at hrn'
    simp only [List.length_cons, List.length_nil] at hrn'
    have hel := elemV_len nm y (bytesV (d + 1) y)
    have hk8 := kind_byte hgood.right
    intro K1 hK1
    have k1 : ∀ (need : Int) (w13 : World), Keeps w1 w13 → Bld w1.heap.size buf w13 → ((nx < 0 ∧ need = -1) ∨ (0 < need ∧ need = nx - (buf.length : Int) ∧ 0 < nx)) → K1 need w13 := by
      intro need w13 hk13' hb13 hneed
      refine hK1 need w13 ?_
      intro K2 hK2
      have k2 : ∀ (need' : Int) (w14 : World), Keeps w1 w14 → Bld w1.heap.size (buf ++ comma k) w14 → ((nx < 0 ∧ need' < 0) ∨ (0 < need' ∧ need' = nx - ((buf ++ comma k).length : Int))) → -1 ≤ need' → need' ≤ 1000000 → K2 need' w14 := by
        intro need' w14 hk14 hb14 hneed' hm0 hm9
        refine hK2 need' w14 ?_
        refine (ret76 (bytesV d) nm y (bytesV (d + 1) y) (bodyB (bytesV (d + 1)) (ks.drop (k + 1)) ++ [0]) hV rem rem_n rem_c w14 hgood hz0 (hrr.keeps hk14) hrn hrc (by omega)).go fun w15 hk15 => ?_
        refine ⟨_, _, _, _, _, _, _, rfl, _, i32w (by omega) (by omega), ((bodyB (bytesV (d + 1)) (ks.drop (k + 1))).length : Int), by rw [i32w (by omega) (by omega)]; omega, (fun h => by cases h), fun _ => ⟨fun h => absurd (of_decide_eq_true h) (by omega), fun _ => ?_⟩⟩
        have hk15' := hk14.trans hk15
        have hre := (hrr.keeps hk15').left
        refine (h52 rem (elemV nm y (bytesV (d + 1) y)).length rem_c need' w15 (hw1.keeps hk15') hre rfl (by omega) (by omega) hm9).go fun w16 hk16 => ⟨_, _, rfl, ?_⟩
        have hb17 := (hb14.keeps hk15).keeps hk16
        have hnl := nT_len (memT (longV F (d + 1)) (nm, y)) need'
        have hmn := hmid.next hs hu ho hp hneed'
        have hyl : (memT (longV F (d + 1)) (nm, y)).length ≤ s.length := by
          obtain ⟨rest, hj⟩ := joinK_parts hp
          have := congrArg List.length (hs.trans (by rw [hj]))
          simp only [List.length_append] at this
          omega
        refine (hb17.str (cutX (memT (longV F (d + 1)) (nm, y)) need') (by have : (comma k).length ≤ 1 := by { unfold comma; split <;> simp }; rw [List.length_append]; omega)).mono ?_
        rintro _ w18 ⟨rfl, hb18, hk18⟩
        refine ⟨_, rfl, ks.length - (k + 1), by omega, Below.trans (hk15'.trans hk16) hk18, k + 1, _, hb18, hmn, rfl, rfl, reads_from (hrr) (by rw [← hrn]; exact hrc), ?_, by omega, ?_⟩
        · rw [hrn, List.length_append]; omega
        · rw [decide_eq_false (by omega)]
      refine ⟨fun hf => ?_, fun hf => ?_⟩
      · have hk0 : k ≠ 0 := by
          intro h; subst h; cases hf
        have hco : comma k = [44] := by unfold comma; rw [if_neg hk0]
        refine (hb13.byte 44 (by omega)).mono ?_
        rintro _ w18 ⟨rfl, hb18, hk18⟩
        have hk18' : Keeps w1 w18 := Below.trans hk13' hk18
        refine ⟨rfl, fun hp0 => ?_, fun hp0 => ?_⟩
        · have hp0 := of_decide_eq_true hp0
          rcases hneed with ⟨_, h⟩ | ⟨_, hne, hnx⟩
          · omega
          refine ⟨need - 1, i64w (by omega) (by omega), fun h1 => ?_, fun h1 => ?_⟩
          · have h1 := of_decide_eq_true h1
            exact key true w18 _ hb18 hk18' (hmid.full1 hs hu ho (by omega) hk0 hnx (by omega))
          · have h1 := of_decide_eq_false h1
            exact k2 _ w18 hk18' (hco ▸ hb18) (.inr ⟨by omega, by rw [hco, List.length_append]; simp only [List.length_cons, List.length_nil]; omega⟩) (by omega) (by omega)
        · have hp0 := of_decide_eq_false hp0
          rcases hneed with ⟨hnx, h⟩ | ⟨h, _, _⟩
          · exact k2 _ w18 hk18' (hco ▸ hb18) (.inl ⟨hnx, by omega⟩) (by omega) (by omega)
          · omega
      · have hk0 : k = 0 := by
          rcases Nat.eq_zero_or_pos k with h | h
          · exact h
          · rw [decide_eq_false (by omega)] at hf; cases hf
        have hco : comma k = [] := by unfold comma; rw [if_pos hk0]
        refine k2 need w13 hk13' (by rw [hco, List.append_nil]; exact hb13) ?_ (by omega) (by omega)
        rcases hneed with ⟨h1, h2⟩ | ⟨h1, h2, _⟩
        · exact .inl ⟨h1, by omega⟩
        · exact .inr ⟨h1, by rw [hco, List.append_nil]; exact h2⟩
    refine ⟨fun hp0 => ?_, fun hp0 => ?_⟩
    · have hp0 := of_decide_eq_true hp0
      refine hbl.len.mono ?_
      rintro _ w19 ⟨rfl, rfl⟩
      refine ⟨_, rfl, fun hx => ?_, fun hx => ?_⟩
      · have hx := of_decide_eq_true hx
        exact key true w19 buf hbl hk12 (hmid.full hs hu ho (by omega) hp0 hx)
      · have hx := of_decide_eq_false hx
        refine hbl.len.mono ?_
        rintro _ w20 ⟨rfl, rfl⟩
        exact ⟨_, rfl, nx - (buf.length : Int), i64w (by omega) (by omega), k1 _ w20 hk12 hbl (.inr ⟨by omega, rfl, hp0⟩)⟩
    · have hp0 := of_decide_eq_false hp0
      exact k1 (-1) w12 hk12 hbl (.inl ⟨by omega, rfl⟩)
  · cases tr with
    | false => cases htr
    | true => exact key true w12 buf hbl hk12 hmid.cut
  · have hpos := of_decide_eq_false hpos
    have hke : k = ps.length := by
      rcases Nat.lt_or_ge k ks.length with h | h
      · rcases hny : ks[k]'h with ⟨nm, y⟩
        have hget : ks[k]? = some (nm, y) := by rw [List.getElem?_eq_getElem h, hny]
        have hdl := congrArg List.length (bodyB_drop (bytesV e) hget)
        rw [List.length_append, elemV_len] at hdl
        omega
      · omega
    exact key tr w12 buf hbl hk12 (hmid.stop hs hu ho hke)
end Go.Proofs.Tryz
set_option linter.unusedVariables false
set_option maxRecDepth 100000
namespace Go.Proofs.Tryz
open Go.Vc
def VC315 (ss : Ptr) (aa ab : Nat) (w : World) (R : RR) : Prop :=
 R (.int .i64 (aa : Int)) w
def an315 : Ann :=
 .k .z
 .zl
theorem c315 (ss : Ptr) (aa ab : Nat) (w : World) (R : RR) (hvc : VC315 ss aa ab w R) : CR 315 [.slice ss aa ab] w R :=
 vcc (fn := f315) (ann := an315) hvc (by kernel_rfl) (by kernel_rfl)
def VC316 (ss : Ptr) (ab ac : Nat) (i : Int) (j : Int) (w : World) (R : RR) : Prop :=
 ((0 : Int) ≤ i ∧ i < (ab : Int)) ∧ ∃ ssa : Addr, ss = some ssa ∧
 ∃ x10 : Int, w.drew.cell? (ssa.add (i.toNat * 1)) = some (.int .i32 x10) ∧
 ((0 : Int) ≤ j ∧ j < (ab : Int)) ∧ ∃ aa : Addr, ss = some aa ∧
 ∃ x14 : Int, w.drew.cell? (aa.add (j.toNat * 1)) = some (.int .i32 x14) ∧
 R (.bool (decide (x10 < x14))) w.drew
def an316 : Ann :=
 .k .z
 (.k (.reg (.loads (.take 0 (.q) (.take 1 (.q) (.take 2 (.s []) (.take 3 (.s [.int .i32]) (.take 4 (.q) (.take 5 (.q) (.take 6 (.s []) (.take 7 (.s [.int .i32]) (.take 8 (.q) (.take 9 (.q) .done))))))))))))
 .l)
theorem c316 (ss : Ptr) (aa ab : Nat) (i : Int) (j : Int) (w : World) (R : RR) (hvc : VC316 ss aa ab i j w R) : CR 316 [.slice ss aa ab, .int .i64 i, .int .i64 j] w R :=
 vcc (fn := f316) (ann := an316) hvc (by kernel_rfl) (by kernel_rfl)
def VC317 (ss : Ptr) (ad ae : Nat) (i : Int) (j : Int) (w : World) (R : RR) : Prop :=
 ∃ f : List (Addr × Value), Kept w f ∧
 ((0 : Int) ≤ j ∧ j < (ad : Int)) ∧ ∃ ssa : Addr, ss = some ssa ∧
 ∃ x13 : Int, ((ssa.add (j.toNat * 1)), .int .i32 x13) ∈ f ∧
 ((0 : Int) ≤ i ∧ i < (ad : Int)) ∧ ∃ aa : Addr, ss = some aa ∧
 ∃ x17 : Int, ((aa.add (i.toNat * 1)), .int .i32 x17) ∈ f ∧
 ((0 : Int) ≤ i ∧ i < (ad : Int)) ∧ ∃ ab : Addr, ss = some ab ∧
 CanStore w.drew (ab.add (i.toNat * 1)) (.int .i32 x13) ∧ ∀ w1, w1 = w.drew.setCell (ab.add (i.toNat * 1)) (.int .i32 x13) →
 ((0 : Int) ≤ j ∧ j < (ad : Int)) ∧ ∃ ac : Addr, ss = some ac ∧
 CanStore w1 (ac.add (j.toNat * 1)) (.int .i32 x17) ∧ ∀ w2, w2 = w1.setCell (ac.add (j.toNat * 1)) (.int .i32 x17) →
 R (.tuple ⟨[]⟩) w2
def an317 : Ann :=
 .reg (.held [13, 15] (.take 0 (.q) (.take 1 (.q) (.take 2 (.q) (.take 3 (.q) (.take 4 (.q) (.take 5 (.q) (.take 6 (.s []) (.take 7 (.s [.int .i32]) (.take 8 (.q) (.take 9 (.q) (.take 10 (.s []) (.take 11 (.s [.int .i32]) (.take 12 (.s []) (.run 13 (.q) (.take 14 (.s []) (.run 15 (.q) .done .done)) .done)))))))))))))))
theorem c317 (ss : Ptr) (aa ab : Nat) (i : Int) (j : Int) (w : World) (R : RR) (hvc : VC317 ss aa ab i j w R) : CR 317 [.slice ss aa ab, .int .i64 i, .int .i64 j] w R :=
 vcc (fn := f317) (ann := an317) hvc (by kernel_rfl) (by kernel_rfl)
end Go.Proofs.Tryz
set_option linter.unusedVariables false
namespace Go.Proofs.Tryz
open Go.Vc Go.RowKit Go.Sort
theorem reach224 (rv : Value) : Reaches prog 224 rv "Len" 315 ∧ Reaches prog 224 rv "Less" 316 ∧ Reaches prog 224 rv "Swap" 317 :=
  ⟨⟨fun w => by kernel_rfl, fun a w => enters_spec (by kernel_rfl) a w⟩, ⟨fun w => by kernel_rfl, fun a w => enters_spec (by kernel_rfl) a w⟩, ⟨fun w => by kernel_rfl, fun a w => enters_spec (by kernel_rfl) a w⟩⟩
theorem lenM224 (g n c : Nat) (w : World) : LenM prog 315 (.slice (some ⟨g, 0, none⟩) n c) n w := by
  unfold LenM
  refine calls_q (c315 _ n c w (fun v w' => v = .int .i64 (n : Int) ∧ w' = w) ⟨rfl, rfl⟩) ?_
  rintro v w' ⟨rfl, rfl⟩
  exact ⟨rfl, 0, rfl⟩
theorem lessM224 (g c : Nat) (d : Array UInt8) (w : World) (hH : Holds enc8 w g 0 d) (hg : g < w.heap.size) (hs : d.size ≤ 1000) : LessM prog 316 (.slice (some ⟨g, 0, none⟩) d.size c) enc8 lt8 g 0 d.size w := by
  intro m os dk hdk i j hi hj
  have hh := holds_sortWorld enc8 w g 0 m d dk os hg hH hdk
  generalize sortWorld enc8 w g 0 m dk os = W at *
  refine calls_q (c316 _ d.size c i j W (fun v w' => v = .bool (lt8 dk[i]! dk[j]!) ∧ w' = W.drew) ?_) ?_
  · unfold VC316
    exact ⟨⟨by omega, by omega⟩, _, rfl, _, (get8 hh i (by omega)).1, ⟨by omega, by omega⟩, _, rfl, _, (get8 hh j (by omega)).1, rfl, rfl⟩
  · rintro v w' ⟨rfl, rfl⟩
    exact ⟨rfl, 1, rfl⟩
theorem swapM224 (g c n : Nat) (hn : n ≤ 1000) : SwapM prog 317 (.slice (some ⟨g, 0, none⟩) n c) enc8 g 0 n := by
  intro W dk hh hdk i j hi hj
  have ci := get8 hh i (by omega)
  have cj := get8 hh j (by omega)
  have can : ∀ (W' : World) (k : Nat) (v u : Value), W'.cell? ⟨g, 0 + k, none⟩ = some u → W'.frozen? ⟨g, 0 + k, none⟩ = false → v.oneCell' = true → CanStore W' ((⟨g, 0, none⟩ : Addr).add (((k : Nat) : Int).toNat * 1)) v := by
    intro W' k v u h1 h2 h3
    rw [add_at, Nat.mul_one, Int.toNat_natCast]
    exact ⟨by rw [h1]; rfl, h2, h3⟩
  refine calls_q (c317 _ n c i j W (fun v w' => v = .tuple ⟨[]⟩ ∧ w' = ((W.setCell ⟨g, 0 + i, none⟩ (enc8 dk[j]!)).setCell ⟨g, 0 + j, none⟩ (enc8 dk[i]!)).drewN 1) ?_) ?_
  · unfold VC317
    refine ⟨[((⟨g, 0, none⟩ : Addr).add (((j : Nat) : Int).toNat * 1), .int .i32 ((dk[j]!).toNat : Int)), ((⟨g, 0, none⟩ : Addr).add (((i : Nat) : Int).toNat * 1), .int .i32 ((dk[i]!).toNat : Int))], kept_of (fun p hp => ?_), ⟨by omega, by omega⟩, _, rfl, _, List.mem_cons_self, ⟨by omega, by omega⟩, _, rfl, _, List.mem_cons_of_mem _ List.mem_cons_self, ⟨by omega, by omega⟩, _, rfl, ?_⟩
    · simp only [List.mem_cons, List.mem_nil_iff, or_false] at hp
      rcases hp with rfl | rfl
      · exact cj.1
      · exact ci.1
    refine ⟨can W.drew i _ _ (hh i (by omega)).1 ci.2 rfl, fun w1 hw1 => ⟨⟨by omega, by omega⟩, _, rfl, ?_⟩⟩
    have hw1' : w1 = (W.setCell ⟨g, 0 + i, none⟩ (enc8 dk[j]!)).drew := by rw [hw1, add_at, Nat.mul_one, Int.toNat_natCast]; rfl
    obtain ⟨v', hv'⟩ := cell?_setCell_some (w := W) (p := ⟨g, 0 + i, none⟩) (x := enc8 dk[j]!) (q := ⟨g, 0 + j, none⟩) (hh j (by omega)).1
    refine ⟨can w1 j _ v' (by rw [hw1']; exact hv') ?_ rfl, fun w2 hw2 => ⟨rfl, ?_⟩⟩
    · rw [hw1']
      show (W.setCell ⟨g, 0 + i, none⟩ (enc8 dk[j]!)).frozen? _ = false
      rw [Go.Sort.setCell_eq, frozen?_mapBlock]; exact cj.2
    · rw [hw2, hw1', add_at, Nat.mul_one, Int.toNat_natCast]; rfl
  · rintro v w' ⟨rfl, rfl⟩
    exact ⟨rfl, 1, rfl⟩
theorem ret97 (s : List UInt8) (hs : lettersUp s) (hl : s.length ≤ 300) (w : World) : Ret 97 [.string (mkS s)] w (.string (mkS s)) := by
  have ha : ∀ b ∈ s, b.toNat < 128 := fun b hb => by have := (hs.1 b hb).2; omega
  refine Ret.of (c97 s w _ ?_)
  unfold VC97
  have hsz : (mkS s).size = s.length := rfl
  have hrunes : Conv.runesFrom (mkS s) (mkS s).size 0 #[] = (s.map enc8).toArray := by
    rw [runes_ascii s ha _ 0 #[] (by rw [hsz]; omega)]
    simp
  have hrl : (s.map enc8).toArray.size = s.length := by simp
  have hconv := run_runes_of_string (P := prog) w 9 223 21 (mkS s) u9 u223 u21 (by rw [hrunes, hrl]; omega)
  rw [hrunes, hrl] at hconv
  generalize hcap : grownCap w s.length 0 21 = cap at hconv
  have hk1 : Keeps w (w.drew.alloc (.cells ((s.map enc8).toArray ++ Array.replicate (cap - s.length) (.int .i32 0)) 21)) := (Keeps.refl w).drew.alloc _
  have hcellsA : ∀ j, j < s.length → ((s.map enc8).toArray ++ Array.replicate (cap - s.length) (.int .i32 0))[j]? = some (enc8 s.toArray[j]!) := by
    intro j hj
    rw [Array.getElem?_append_left (by rw [hrl]; exact hj)]
    simp [hj]
  have hH : Holds enc8 (w.drew.alloc (.cells ((s.map enc8).toArray ++ Array.replicate (cap - s.length) (.int .i32 0)) 21)) w.heap.size 0 s.toArray := by
    intro j hj
    have hj' : j < s.length := by simpa using hj
    refine ⟨?_, World.frozen?_alloc_new _ _ _ _⟩
    rw [Nat.zero_add]
    show (w.drew.alloc _).cell? ⟨w.drew.heap.size, j, none⟩ = _
    rw [World.cell?_alloc_new]
    exact hcellsA j hj'
  have hlt : w.heap.size < (w.drew.alloc (.cells ((s.map enc8).toArray ++ Array.replicate (cap - s.length) (.int .i32 0)) 21)).heap.size := by simp
  generalize w.drew.alloc (.cells ((s.map enc8).toArray ++ Array.replicate (cap - s.length) (.int .i32 0)) 21) = w1 at *
  refine ⟨_, _, _, w1, hconv, ?_⟩
  obtain ⟨r1, r2, r3⟩ := reach224 (.slice (some ⟨w.heap.size, 0, none⟩) s.length cap)
  have hds : s.toArray.size = s.length := by simp
  -- the sort leaves the letters as they are
  have hsort : Calls prog 157 ⟨[.iface 224 (.slice (some ⟨w.heap.size, 0, none⟩) s.length cap)]⟩ w1 fun e w2 => e = .returned (.tuple ⟨[]⟩) ∧ Keeps w w2 ∧ Holds enc8 w2 w.heap.size 0 s.toArray := by
    by_cases h2 : s.length ≤ 1
    · refine (sort_Sort_tiny (α := UInt8) 224 _ 315 r1 s.length h2 w1 (lenM224 _ _ _ w1)).mono ?_
      rintro e w2 ⟨rfl, q, rfl⟩
      exact ⟨rfl, hk1.trans (keeps_drewN w1 q), hH⟩
    · refine (sort_Sort_sorted 224 _ 315 316 317 r1 r2 r3 enc8 lt8 swo8 w.heap.size 0 s.toArray (by rw [hds]; omega) (by rw [hds]; omega) w1 (by rw [hds]; exact lenM224 _ _ _ w1) (by have := lessM224 w.heap.size cap s.toArray w1 hH hlt (by rw [hds]; omega); rwa [hds] at this) (by rw [hds]; exact swapM224 _ _ _ (by omega)) hH hlt).mono ?_
      rintro e w2 ⟨rfl, d', n, os, hperm, hsorted, rfl⟩
      have hd's : d'.size = s.length := by rw [hperm.1, hds]
      have hd' : d' = s.toArray := by
        have hp : d'.toList.Perm s := by
          have := hperm.2.2
          rw [hds] at this
          have e1 : d'.extract 0 s.length = d' := by rw [← hd's]; simp
          have e2 : s.toArray.extract 0 s.length = s.toArray := by rw [← hds]; simp
          rw [e1, e2] at this
          simpa using this
        have hpw : d'.toList.Pairwise fun a b => a.toNat ≤ b.toNat := by
          rw [List.pairwise_iff_getElem]
          intro i j hi hj hij
          have hi' : i < d'.size := by simpa using hi
          have hj' : j < d'.size := by simpa using hj
          have := hsorted i j (Nat.zero_le _) hij (by rw [hds, ← hd's]; exact hj')
          rw [getElem!_pos d' i hi', getElem!_pos d' j hj'] at this
          simp only [lt8, decide_eq_false_iff_not] at this
          simp only [Array.getElem_toList]
          omega
        have heq := List.Perm.eq_of_pairwise (le := fun a b : UInt8 => a.toNat ≤ b.toNat) (fun a b _ _ h1 h2 => UInt8.toNat_inj.1 (by omega)) hpw (pairwise_of_sortedB s hs.2) hp
        rw [← heq]
      subst hd'
      have hp : putRow enc8 (Go.Sort.ahead w1 n) w.heap.size 0 s.toArray = Go.Sort.ahead w1 n := putRow_self enc8 _ _ _ _ (holds_ahead enc8 w1 n _ _ _ hH)
      rw [hp]
      have hka : Keeps w1 (grow (Go.Sort.ahead w1 n) os) := keeps_grow w1 n os
      exact ⟨rfl, hk1.trans hka, holds_grow enc8 _ os _ _ _ hlt (holds_ahead enc8 w1 n _ _ _ hH)⟩
  refine hsort.mono ?_
  rintro e w2 ⟨rfl, hk2, hH2⟩
  have hback := run_convert_runes (P := prog) w2 223 9 21 ⟨w.heap.size, 0, none⟩ s.length cap (s.map fun b => (b.toNat : Int)) (by simp) u223 u21 u9 (fun j hj => by
    have hj' : j < s.length := by simpa using hj
    have := (hH2 j (by rw [hds]; exact hj')).1
    rw [add_at, this]
    have e1 : s.toArray[j]! = s[j] := by rw [getElem!_pos _ j (by rw [hds]; exact hj')]; simp
    rw [e1]
    simp [enc8, hj'])
  have htk : (s.map fun b => (b.toNat : Int)).take s.length = s.map fun b => (b.toNat : Int) := List.take_of_length_le (by simp)
  rw [htk] at hback
  have hrb : runesBytes (s.map fun b => (b.toNat : Int)) = mkS s := by
    unfold runesBytes
    rw [runes_back s _ ha]
    rfl
  rw [hrb] at hback
  exact ⟨rfl, s, w2, hback, rfl, hk2⟩
end Go.Proofs.Tryz
set_option linter.unusedVariables false
namespace Go.Proofs.Tryz
open Go.Vc Go.RowKit
def c10 (N k : Nat) : UInt8 := UInt8.ofNat (48 + N / 10 ^ k % 10)
def padD (N : Nat) : Nat → List UInt8
  | 0 => []
  | k + 1 => c10 N k :: padD N k
theorem padD_len (N : Nat) : ∀ k, (padD N k).length = k
  | 0 => rfl
  | k + 1 => by simp [padD, padD_len N k]
theorem c10_succ (N k : Nat) : c10 N (k + 1) = c10 (N / 10) k := by
  unfold c10
  rw [Nat.pow_succ, Nat.mul_comm, ← Nat.div_div_eq_div_mul]
theorem padD_snoc (N : Nat) : ∀ k, padD N (k + 1) = padD (N / 10) k ++ [c10 N 0]
  | 0 => rfl
  | k + 1 => by
    show c10 N (k + 1) :: padD N (k + 1) = (c10 (N / 10) k :: padD (N / 10) k) ++ [c10 N 0]
    rw [padD_snoc N k, c10_succ]; rfl
theorem c10_zero (N : Nat) : c10 N 0 = UInt8.ofNat (48 + N % 10) := by unfold c10; simp
theorem padD_decF : ∀ (f N : Nat), N < f → padD N (decF N).length = decF N
  | 0, N, h => by omega
  | f + 1, N, h => by
    by_cases h10 : N < 10
    · rw [decF_small' N h10]
      show [c10 N 0] = _
      rw [c10_zero, Nat.mod_eq_of_lt h10]
    · rw [decF_step N (by omega), List.length_append, List.length_singleton, padD_snoc, padD_decF f (N / 10) (by omega), c10_zero]
theorem c10_big (N k : Nat) (h : N < 10 ^ k) : c10 N k = 48 := by
  unfold c10; rw [Nat.div_eq_of_lt h]; rfl
theorem decF_lt (N : Nat) : N < 10 ^ (decF N).length := by
  have := decF_len N (decF N).length
  by_cases h0 : (decF N).length = 0
  · exfalso
    unfold decF at h0
    split at h0
    · simp at h0
    · rename_i hN
      rw [digs_step N hN] at h0; simp at h0
  · exact (this (by omega)).1 (Nat.le_refl _)
theorem decF_ge (N k : Nat) (h1 : 1 ≤ k) (hk : k < (decF N).length) : 10 ^ k ≤ N := by
  rcases Nat.lt_or_ge N (10 ^ k) with h | h
  · have := (decF_len N k h1).2 h; omega
  · exact h
theorem padD_more (N : Nat) : ∀ j, padD N ((decF N).length + j) = List.replicate j 48 ++ decF N
  | 0 => by simpa using padD_decF (N + 1) N (Nat.lt_succ_self _)
  | j + 1 => by
    show c10 N ((decF N).length + j) :: padD N ((decF N).length + j) = _
    rw [padD_more N j, c10_big N _ (Nat.lt_of_lt_of_le (decF_lt N) (Nat.pow_le_pow_right (by decide) (by omega)))]
    rfl
theorem c10_div (N m k : Nat) : c10 (N / 10 ^ m) k = c10 N (m + k) := by
  unfold c10
  rw [Nat.div_div_eq_div_mul, ← Nat.pow_add]
theorem padD_split (N m : Nat) : ∀ k, padD N (m + k) = padD (N / 10 ^ m) k ++ padD N m
  | 0 => rfl
  | k + 1 => by
    show c10 N (m + k) :: padD N (m + k) = (c10 (N / 10 ^ m) k :: padD (N / 10 ^ m) k) ++ padD N m
    rw [padD_split N m k, c10_div]; rfl
def tailD (N m k : Nat) : List UInt8 := if k ≤ m then padD N k else padD (N / 10 ^ m) (k - m) ++ 46 :: padD N m
theorem tailD_len (N m k : Nat) : (tailD N m k).length = if k ≤ m then k else k + 1 := by
  unfold tailD
  split
  · exact padD_len _ _
  · simp only [List.length_append, List.length_cons, padD_len]; omega
theorem tailD_zero (N m : Nat) : tailD N m 0 = [] := by unfold tailD; rw [if_pos (Nat.zero_le _)]; rfl
theorem tailD_plain (N m k : Nat) (h : k + 1 ≤ m) : tailD N m (k + 1) = c10 N k :: tailD N m k := by
  unfold tailD; rw [if_pos h, if_pos (by omega)]; rfl
theorem tailD_point (N m : Nat) : tailD N m (m + 1) = c10 N m :: 46 :: tailD N m m := by
  unfold tailD
  rw [if_neg (by omega), if_pos (Nat.le_refl _), show m + 1 - m = 1 by omega]
  show (c10 (N / 10 ^ m) 0 :: []) ++ _ = _
  rw [c10_div]; rfl
theorem tailD_past (N m k : Nat) (h : m < k) : tailD N m (k + 1) = c10 N k :: tailD N m k := by
  unfold tailD
  rw [if_neg (by omega), if_neg (by omega), show k + 1 - m = (k - m) + 1 by omega]
  show (c10 (N / 10 ^ m) (k - m) :: padD (N / 10 ^ m) (k - m)) ++ _ = _
  rw [c10_div, show m + (k - m) = k by omega]; rfl
def sciD (n : Nat) (e : Int) : Bool := decide (0 < e) || decide (e + n - 1 < -6)
def pointD (n : Nat) (e : Int) : Nat := if sciD n e then (if n = 1 then 100 else n - 1) else if e = 0 then 100 else (-e).toNat
def countD (n : Nat) (e : Int) : Nat := if sciD n e then n else if e = 0 then n else max n ((-e).toNat + 1)
def lastE (n : Nat) (e : Int) : Int := if countD n e ≤ pointD n e then e else e + pointD n e
def suffD (x : Int) : List UInt8 := if 0 < x then [69, 43] ++ decNum x else if x < 0 then [69] ++ decNum x else []
def textD (N : Nat) (e : Int) : List UInt8 := tailD N (pointD (decF N).length e) (countD (decF N).length e) ++ suffD (lastE (decF N).length e)
theorem suffD_pos (x : Int) (h : 0 < x) : suffD x = [69, 43] ++ decNum x := by unfold suffD; rw [if_pos h]
theorem suffD_neg (x : Int) (h : x < 0) : suffD x = [69] ++ decNum x := by unfold suffD; rw [if_neg (show ¬ 0 < x by omega), if_pos h]
theorem decF_len_pos (N : Nat) : 1 ≤ (decF N).length := by
  rcases Nat.eq_zero_or_pos (decF N).length with h | h
  · have := decF_lt N; rw [h] at this
    have : N = 0 := by simpa using this
    subst this; simp [decF] at h
  · exact h
theorem textD_eq (N : Nat) (e : Int) (neg : Bool) (hn : (decF N).length ≤ 90) : decTextF ⟨0, neg, decF N, e⟩ = (if neg then [45] else []) ++ textD N e := by
  have h1 := decF_len_pos N
  have hpad := padD_decF (N + 1) N (Nat.lt_succ_self _)
  have hmore := padD_more N
  unfold decTextF textD
  simp only [if_false, show (0 : Int) ≠ 2 by decide, show (0 : Int) ≠ 1 by decide]
  generalize hn' : (decF N).length = n at *
  by_cases hs : 0 < e ∨ e + (n : Int) - 1 < -6
  · have hsb : sciD n e = true := by unfold sciD; simpa using hs
    rw [if_pos hs]
    have hc : countD n e = n := by unfold countD; rw [if_pos hsb]
    by_cases h11 : n = 1
    · have hp : pointD n e = 100 := by unfold pointD; rw [if_pos hsb, if_pos h11]
      have hl : lastE n e = e := by unfold lastE; rw [hc, hp, if_pos (by omega)]
      have ht : tailD N 100 n = decF N := by unfold tailD; rw [if_pos (by omega), hpad]
      have htk : (decF N).take 1 = decF N := List.take_of_length_le (by omega)
      rw [hc, hp, hl, ht, if_neg (by omega : ¬ 1 < n), htk]
      have he : e + (n : Int) - 1 = e := by omega
      rw [he]
      by_cases h0 : 0 < e
      · rw [suffD_pos e h0, if_pos (show 0 ≤ e by omega)]; simp [List.append_assoc]
      · rw [suffD_neg e (by omega), if_neg (show ¬ 0 ≤ e by omega)]; simp [List.append_assoc]
    · have hp : pointD n e = n - 1 := by unfold pointD; rw [if_pos hsb, if_neg h11]
      have hl : lastE n e = e + (n : Int) - 1 := by unfold lastE; rw [hc, hp, if_neg (by omega)]; omega
      have ht : tailD N (n - 1) n = (decF N).take 1 ++ ([46] ++ (decF N).drop 1) := by
        obtain ⟨m, rfl⟩ : ∃ m, n = m + 1 := ⟨n - 1, by omega⟩
        rw [Nat.add_sub_cancel, tailD_point]
        have : decF N = c10 N m :: padD N m := hpad.symm
        rw [this]
        unfold tailD
        rw [if_pos (Nat.le_refl _)]; rfl
      rw [hc, hp, hl, ht, if_pos (by omega : 1 < n)]
      by_cases h0 : 0 ≤ e + (n : Int) - 1
      · rw [suffD_pos _ (show 0 < e + (n : Int) - 1 by omega), if_pos h0]; simp [List.append_assoc]
      · rw [suffD_neg _ (show e + (n : Int) - 1 < 0 by omega), if_neg h0]; simp [List.append_assoc]
  · have hsb : sciD n e = false := by unfold sciD; simp only [Bool.or_eq_false_iff, decide_eq_false_iff_not]; omega
    rw [if_neg hs]
    by_cases he0 : e = 0
    · have hc : countD n e = n := by unfold countD; rw [hsb]; simp [he0]
      have hp : pointD n e = 100 := by unfold pointD; rw [hsb]; simp [he0]
      have hl : lastE n e = 0 := by unfold lastE; rw [hc, hp, if_pos (by omega), he0]
      have ht : tailD N 100 n = decF N := by unfold tailD; rw [if_pos (by omega), hpad]
      rw [if_pos he0, hc, hp, hl, ht]
      simp [suffD]
    · rw [if_neg he0]
      obtain ⟨m, hm⟩ : ∃ m : Nat, e = -(m : Int) := ⟨(-e).toNat, by omega⟩
      have hm1 : 1 ≤ m := by omega
      have hc : countD n e = max n (m + 1) := by unfold countD; rw [hsb]; simp only [Bool.false_eq_true, if_false, he0]; rw [hm]; simp
      have hp : pointD n e = m := by unfold pointD; rw [hsb]; simp only [Bool.false_eq_true, if_false, he0]; rw [hm]; simp
      have hl : lastE n e = 0 := by unfold lastE; rw [hc, hp, if_neg (by omega), hm]; omega
      have hneg : (-e).toNat = m := by rw [hm]; simp
      rw [hc, hp, hl, hneg]
      have hS : List.replicate (m + 1 - n) 48 ++ decF N = padD N (max n (m + 1)) := by
        have := hmore (m + 1 - n)
        rw [← this]; congr 1; omega
      rw [hS, padD_len]
      have hk : (((max n (m + 1) : Nat) : Int) + e).toNat = max n (m + 1) - m := by omega
      rw [hk]
      have hsp := padD_split N m (max n (m + 1) - m)
      rw [show m + (max n (m + 1) - m) = max n (m + 1) by omega] at hsp
      have hlen := padD_len (N / 10 ^ m) (max n (m + 1) - m)
      have htk : (padD N (max n (m + 1))).take (max n (m + 1) - m) = padD (N / 10 ^ m) (max n (m + 1) - m) := by
        rw [hsp]; exact List.take_left' hlen
      have hdr : (padD N (max n (m + 1))).drop (max n (m + 1) - m) = padD N m := by
        rw [hsp]; exact List.drop_left' hlen
      rw [htk, hdr]
      have ht : tailD N m (max n (m + 1)) = padD (N / 10 ^ m) (max n (m + 1) - m) ++ 46 :: padD N m := by unfold tailD; rw [if_neg (by omega)]
      rw [ht]
      simp [suffD, List.append_assoc]
end Go.Proofs.Tryz
