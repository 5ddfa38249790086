/- Parts of a proof, joined: B36, B13, B14. -/
import Derived.Test.YtfofafjemgfobaaGreatDoorX18
set_option linter.unusedVariables false
namespace Go.Proofs.Tryz
open Go.Vc Go.RowKit Go.Sort
theorem joinK_app (p : List UInt8) (r b : List (List UInt8)) : joinK ((p :: r) ++ b) = joinK (p :: r) ++ b.flatMap fun q => 44 :: q := by
  simp only [List.cons_append, joinK, List.flatMap_append, List.append_assoc]
def comma (k : Nat) : List UInt8 := if k = 0 then [] else [44]
theorem comma_asc (k : Nat) : asc (comma k) := by unfold comma; split <;> exact asc_dec (by decide)
theorem joinK_parts {ps : List (List UInt8)} {k : Nat} {p : List UInt8} (h : ps[k]? = some p) : ∃ rest, joinK ps = joinK (ps.take k) ++ (comma k ++ (p ++ rest)) := by
  obtain ⟨hk, hp⟩ := List.getElem?_eq_some_iff.1 h
  have e : ps = ps.take k ++ p :: ps.drop (k + 1) := by
    rw [← hp, ← List.drop_eq_getElem_cons hk, List.take_append_drop]
  refine ⟨(ps.drop (k + 1)).flatMap fun q => 44 :: q, ?_⟩
  cases k with
  | zero =>
    conv => lhs; rw [e]
    simp only [List.take_zero, List.nil_append, joinK, comma, if_true]
  | succ k =>
    obtain ⟨q, r, hq⟩ : ∃ q r, ps.take (k + 1) = q :: r := by
      cases ps with
      | nil => simp at hk
      | cons q r => exact ⟨q, r.take k, rfl⟩
    conv => lhs; rw [e, hq, joinK_app]
    rw [hq]
    simp [comma]
theorem joinK_next {ps : List (List UInt8)} {k : Nat} {p : List UInt8} (h : ps[k]? = some p) : joinK (ps.take (k + 1)) = joinK (ps.take k) ++ (comma k ++ p) := by
  have hk := (List.getElem?_eq_some_iff.1 h).1
  rw [take_succ_get ps k p h, joinK_snoc]
  have : (if ps.take k = [] then ([] : List UInt8) else [44]) = comma k := by
    unfold comma
    cases k with
    | zero => rfl
    | succ k =>
      rw [if_neg, if_neg (by omega)]
      intro e
      have := congrArg List.length e
      rw [List.length_take, List.length_nil] at this; omega
  rw [this, List.append_assoc]
theorem cut_at {s b : List UInt8} {n : Nat} (h : ∃ r, s = b ++ r) (hu : utf8F b = true) (hn : b.length = n) : cutT s n = b := by
  obtain ⟨r, rfl⟩ := h
  rw [cutT_left r hu (by omega), cutT_full hu (by omega)]
theorem cut_in {b p r : List UInt8} {n : Nat} (hb : utf8F b = true) (hp : utf8F p = true) (h1 : b.length ≤ n) (h2 : n - b.length ≤ p.length) : cutT (b ++ (p ++ r)) n = b ++ cutT p (n - b.length) := by
  rw [cutT_right _ hb h1, cutT_left r hp h2]
def FinT (s : List UInt8) (cl : UInt8) (nx : Int) (tr : Bool) (buf : List UInt8) : Prop :=
  (tr = false ∧ s = buf ++ [cl] ∧ utf8F buf = true ∧ (0 < nx → (buf.length : Int) ≤ nx)) ∨ (tr = true ∧ 0 < nx ∧ nx < (s.length : Int) ∧ buf = cutT s nx.toNat)
def MidT (s : List UInt8) (op cl : UInt8) (ps : List (List UInt8)) (nx : Int) (k : Nat) (tr : Bool) (buf : List UInt8) : Prop :=
  k ≤ ps.length ∧ ((tr = false ∧ buf = [op] ++ joinK (ps.take k) ∧ (0 < nx → (buf.length : Int) ≤ nx)) ∨ (tr = true ∧ 0 < nx ∧ nx < (s.length : Int) ∧ buf = cutT s nx.toNat))
section
variable {s : List UInt8} {op cl : UInt8} {ps : List (List UInt8)} {nx : Int} {k : Nat} {tr : Bool} {buf : List UInt8}
theorem MidT.start (h : nx ≠ 0) : MidT s op cl ps nx 0 false [op] :=
  ⟨Nat.zero_le _, .inl ⟨rfl, rfl, fun h => by simp only [List.length_cons, List.length_nil]; omega⟩⟩
theorem mid_utf8 (hu : ∀ p ∈ ps, utf8F p = true) (ho : op.toNat < 128) (k : Nat) : utf8F ([op] ++ joinK (ps.take k)) = true :=
  utf8F_append (asc_utf8 _ (asc.cons ho asc_nil)) (joinK_utf8 _ fun p hp => hu p (List.mem_of_mem_take hp))
theorem MidT.stop (h : MidT s op cl ps nx k tr buf) (hs : s = [op] ++ joinK ps ++ [cl]) (hu : ∀ p ∈ ps, utf8F p = true) (ho : op.toNat < 128) (hk : k = ps.length) : FinT s cl nx tr buf := by
  rcases h.2 with ⟨h1, h2, h3⟩ | h
  · refine .inl ⟨h1, ?_, h2 ▸ mid_utf8 hu ho k, h3⟩
    rw [hs, h2, hk, List.take_length]
  · exact .inr h
theorem MidT.cut (h : MidT s op cl ps nx k true buf) : FinT s cl nx true buf := by
  rcases h.2 with ⟨h1, _⟩ | h
  · cases h1
  · exact .inr h
theorem MidT.full (h : MidT s op cl ps nx k false buf) (hs : s = [op] ++ joinK ps ++ [cl]) (hu : ∀ p ∈ ps, utf8F p = true) (ho : op.toNat < 128) (hk : k < ps.length) (h0 : 0 < nx) (hx : nx ≤ (buf.length : Int)) : FinT s cl nx true buf := by
  rcases h.2 with ⟨_, h2, h3⟩ | h
  · have h3 := h3 h0
    obtain ⟨rest, hj⟩ := joinK_parts (List.getElem?_eq_getElem hk)
    have e : s = buf ++ (comma k ++ (ps[k] ++ rest) ++ [cl]) := by rw [hs, hj, h2]; simp only [List.append_assoc]
    have hl := congrArg List.length e
    simp only [List.length_append, List.length_cons, List.length_nil] at hl
    exact .inr ⟨rfl, h0, by omega, (cut_at ⟨_, e⟩ (h2 ▸ mid_utf8 hu ho k) (by omega)).symm⟩
  · cases h.1
theorem MidT.full1 (h : MidT s op cl ps nx k false buf) (hs : s = [op] ++ joinK ps ++ [cl]) (hu : ∀ p ∈ ps, utf8F p = true) (ho : op.toNat < 128) (hk : k < ps.length) (hk0 : k ≠ 0) (h0 : 0 < nx) (hx : nx - (buf.length : Int) - 1 = 0) : FinT s cl nx true (buf ++ [44]) := by
  rcases h.2 with ⟨_, h2, h3⟩ | h
  · obtain ⟨rest, hj⟩ := joinK_parts (List.getElem?_eq_getElem hk)
    have e : s = (buf ++ [44]) ++ (ps[k] ++ rest ++ [cl]) := by rw [hs, hj, h2]; simp only [comma, if_neg hk0, List.append_assoc]
    have hl := congrArg List.length e
    simp only [List.length_append, List.length_cons, List.length_nil] at hl
    have hb : utf8F (buf ++ [44]) = true := utf8F_append (h2 ▸ mid_utf8 hu ho k) (asc_utf8 _ (asc_dec (by decide)))
    exact .inr ⟨rfl, h0, by omega, (cut_at ⟨_, e⟩ hb (by rw [List.length_append]; simp only [List.length_cons, List.length_nil]; omega)).symm⟩
  · cases h.1
theorem MidT.next (h : MidT s op cl ps nx k false buf) (hs : s = [op] ++ joinK ps ++ [cl]) (hu : ∀ p ∈ ps, utf8F p = true) (ho : op.toNat < 128) {p : List UInt8} (hp : ps[k]? = some p) {need : Int}
    (hneed : (nx < 0 ∧ need < 0) ∨ (0 < need ∧ need = nx - ((buf ++ comma k).length : Int))) : MidT s op cl ps nx (k + 1) (lessT p need) (buf ++ comma k ++ cutX p need) := by
  have hk := (List.getElem?_eq_some_iff.1 hp).1
  have hpu : utf8F p = true := hu p (List.mem_of_getElem? hp)
  rcases h.2 with ⟨_, h2, h3⟩ | h
  · refine ⟨hk, ?_⟩
    have hj1 := joinK_next hp
    have hall : [op] ++ joinK (ps.take (k + 1)) = buf ++ comma k ++ p := by rw [hj1, h2]; simp only [List.append_assoc]
    rcases hneed with ⟨hn, hd⟩ | ⟨h0, hd⟩
    · rw [lessT_neg hd, nT_neg hd]
      exact .inl ⟨rfl, hall.symm, fun h => by omega⟩
    · have hb : utf8F (buf ++ comma k) = true := utf8F_append (h2 ▸ mid_utf8 hu ho k) (asc_utf8 _ (comma_asc k))
      rcases (by omega : need < (p.length : Int) ∨ (p.length : Int) ≤ need) with hl | hl
      · rw [lessT_true (by omega) hl, nT_pos (by omega)]
        obtain ⟨rest, hj⟩ := joinK_parts hp
        have e : s = (buf ++ comma k) ++ (p ++ (rest ++ [cl])) := by rw [hs, hj, h2]; simp only [List.append_assoc]
        have hle := congrArg List.length e
        simp only [List.length_append, List.length_cons, List.length_nil] at hle hd
        refine .inr ⟨rfl, by omega, by omega, ?_⟩
        rw [e, cut_in hb hpu (by rw [List.length_append]; omega) (by rw [List.length_append]; omega)]
        congr 2
        rw [List.length_append]; omega
      · rw [lessT_false hl, nT_full hpu hl]
        exact .inl ⟨rfl, hall.symm, fun _ => by rw [List.length_append]; omega⟩
  · cases h.1
theorem FinT.neg (h : FinT s cl nx tr buf) (hn : nx < 0) : tr = false ∧ s = buf ++ [cl] := by
  rcases h with ⟨h1, h2, _, _⟩ | ⟨_, h, _⟩
  · exact ⟨h1, h2⟩
  · omega
theorem FinT.room (h : FinT s cl nx false buf) (h0 : 0 < nx) (hu : utf8F s = true) (hx : (buf.length : Int) < nx) : cutX s nx = buf ++ [cl] ∧ lessT s nx = false := by
  rcases h with ⟨_, h2, _⟩ | ⟨h, _⟩
  · have hl := congrArg List.length h2
    simp only [List.length_append, List.length_cons, List.length_nil] at hl
    exact ⟨by rw [nT_full hu (by omega), h2], lessT_false (by omega)⟩
  · cases h
theorem FinT.full (h : FinT s cl nx tr buf) (h0 : 0 < nx) (hu : utf8F s = true) (hc : cl.toNat < 128) (hx : tr = true ∨ nx ≤ (buf.length : Int)) : cutX s nx = buf ∧ lessT s nx = true := by
  rcases h with ⟨h1, h2, hbu, h3⟩ | ⟨_, _, h3, h4⟩
  · have h3 := h3 h0
    have hx : nx ≤ (buf.length : Int) := hx.resolve_left (by rw [h1]; decide)
    have hl := congrArg List.length h2
    simp only [List.length_append, List.length_cons, List.length_nil] at hl
    refine ⟨?_, lessT_true (by omega) (by omega)⟩
    rw [nT_pos (by omega), h2]
    have hn : nx.toNat = buf.length := by omega
    exact cut_at ⟨[cl], rfl⟩ hbu (by omega)
  · exact ⟨by rw [nT_pos (by omega), h4], lessT_true (by omega) h3⟩
end
end Go.Proofs.Tryz
set_option linter.unusedVariables false
namespace Go.Proofs.Tryz
open Go.Vc Go.RowKit
theorem n92 : cellsOf' prog 92 = some 2 := by kernel_rfl
theorem ReadsB.left {w : World} {p : Option Addr} {l1 l2 : List UInt8} (h : ReadsB w p (l1 ++ l2)) : ReadsB w p l1 := fun j b hj => h j b (by
  rw [List.getElem?_append_left (List.getElem?_eq_some_iff.1 hj).1]; exact hj)
theorem ret200 (T : Val → List UInt8) (y : Val) (V r : List UInt8) (hV : bytesT T y = V) (p : Option Addr) (n c : Nat) (w : World) (hg : GoodB T y)
    (hr : ReadsB w p (V ++ r)) (hn : n = (V ++ r).length) (hc : n ≤ c) (hlim : n ≤ 2000000000) :
    Ret 200 [.slice p n c, .int .u8 y.kind] w (.tuple ⟨[.slice p V.length c, .slice (slAddr p c V.length 1) (n - V.length) (c - V.length), .bool true]⟩) := by
  have hVn : V.length ≤ n := by rw [hn, List.length_append]; omega
  refine Ret.of (c200 _ _ _ _ w _ ?_)
  unfold VC200
  have h135 := ret135 T y r p n c w hg.own hg.right hg.code hg.plain hg.body (by rw [hV]; exact hr) (by rw [hV]; exact hn) hc hlim
  rw [hV] at h135
  exact h135.go fun w1 hk1 => ⟨_, _, rfl, (fun h => by cases h), fun _ => ⟨_, i64w (by omega) (by omega), (fun h => by have := of_decide_eq_true h; omega), fun _ => ⟨⟨by omega, by omega⟩, ⟨by omega, by omega, by omega⟩, rfl, hk1.trans (Keeps.refl w1).drew⟩⟩⟩
theorem ret138 (T : Val → List UInt8) (y : Val) (V r : List UInt8) (hV : bytesT T y = V) (p : Option Addr) (n c : Nat) (w : World) (hg : GoodB T y)
    (hr : ReadsB w p (V ++ r)) (hn : n = (V ++ r).length) (hc : n ≤ c) (hlim : n ≤ 2000000000) :
    Ret 138 [.slice p n c, .int .u8 y.kind] w (.tuple ⟨[.agg ⟨[.int .u8 y.kind, .slice p V.length c]⟩, .slice (slAddr p c V.length 1) (n - V.length) (c - V.length), .bool true]⟩) := by
  refine Ret.of (c138 _ _ _ _ w _ ?_)
  unfold VC138
  intro w1 hw1
  have hk1 : Keeps w w1 := by rw [hw1]; exact (Keeps.refl w).alloc _
  have hv1 : Var w1 w.heap.size 92 [.int .u8 0, .slice none 0 0] := by rw [hw1]; exact var_alloc w _ 92
  refine (ret200 T y V r hV p n c w1 hg (hr.keeps hk1) hn hc hlim).go fun w2 hk2 => ⟨_, _, _, _, _, _, _, rfl, (fun h => by cases h), fun _ => ?_⟩
  obtain ⟨w4, hst, hg4, hs4, hv4⟩ := store_row (hv1.keeps hk2) n92 rfl (cs := [.int .u8 y.kind, .slice p V.length c]) rfl rfl
  refine ⟨w4, hst, _, hv4.lies.row n92, rfl, ?_⟩
  have hsz := hk1.size
  exact Below.grown (hk1.trans hk2) hg4 (hk1.trans hk2).size (fun k hk => by cases hk; exact Nat.le_refl _)
theorem ret201 (s r : List UInt8) (p : Option Addr) (n c : Nat) (w : World) (hs : s.length ≤ 1000000) (hr : ReadsB w p (docText s ++ r)) (hn : n = (docText s ++ r).length) (hc : n ≤ c) :
    ∃ rm, Ret 201 [.slice p n c] w (.tuple ⟨[.string (mkS s), rm, .bool true]⟩) ∧ rm = .slice (slAddr (slAddr p c 4 1) (c - 4) (s.length + 1) 1) (n - 4 - (s.length + 1)) (c - 4 - (s.length + 1)) := by
  refine ⟨_, ?_, rfl⟩
  have hnl := hn
  rw [List.length_append, docText_len] at hnl
  refine Ret.of (c201 _ _ _ w _ ?_)
  unfold VC201
  have e : docText s ++ r = le32 ((s.length : Int) + 1) ++ (s ++ ([0] ++ r)) := by simp [docText, List.append_assoc]
  refine (ret73 p n c ((s.length : Int) + 1) (s ++ ([0] ++ r)) w (by omega) (by omega) (by rw [← e]; exact hr) (by rw [← e]; exact hn) hc).go fun w1 hk1 => ⟨_, _, _, _, _, rfl, (fun h => by cases h), fun _ => ⟨⟨by omega, by omega, by omega⟩, _, i64w (by omega) (by omega), (fun h => by have := of_decide_eq_true h; omega), fun _ => ⟨(fun h => by have := of_decide_eq_true h; omega), fun _ => ⟨[], ?_, ?_⟩⟩⟩⟩
  · exact True.intro
  · have hk1d := hk1.trans (Keeps.refl w1).drew
    have hdr := reads_drop (hr.keeps hk1d) (by omega : (docText s ++ r).length ≤ c) 4
    have ed : (docText s ++ r).drop 4 = s ++ ([0] ++ r) := by rw [e]; rfl
    rw [ed] at hdr
    refine ⟨(s.length : Int), by rw [i32w (by omega) (by omega)]; omega, ⟨by omega, by omega⟩, ⟨by omega, by omega, by omega⟩, s, w1.drew, conv_string hdr.left rfl, ?_, hk1d⟩
    have et : (((s.length : Int) + 1)).toNat = s.length + 1 := by omega
    rw [et]
theorem ret205 (V m : List UInt8) (hV : V = le32 (V.length : Int) ++ m) (h4 : 4 ≤ V.length) (r : List UInt8) (p : Option Addr) (n c : Nat) (w : World)
    (hr : ReadsB w p (V ++ r)) (hn : n = (V ++ r).length) (hc : n ≤ c) (hlim : n ≤ 2000000000) :
    Ret 205 [.slice p n c] w (.tuple ⟨[.slice p V.length c, .slice (slAddr p c V.length 1) (n - V.length) (c - V.length), .bool true]⟩) := by
  have hVn : V.length ≤ n := by rw [hn, List.length_append]; omega
  have e : V ++ r = le32 (V.length : Int) ++ (m ++ r) := by rw [← List.append_assoc, ← hV]
  refine Ret.of (c205 _ _ _ w _ ?_)
  unfold VC205
  exact (ret73 p n c (V.length : Int) (m ++ r) w (by omega) (by omega) (by rw [← e]; exact hr) (by rw [← e]; exact hn) hc).go fun w1 hk1 => ⟨_, _, _, _, _, rfl, (fun h => by cases h), fun _ => ⟨(fun h => by have := of_decide_eq_true h; omega), fun _ => ⟨_, i64w (by omega) (by omega), (fun h => by have := of_decide_eq_true h; omega), fun _ => ⟨⟨by omega, by omega⟩, ⟨by omega, by omega, by omega⟩, rfl, hk1.trans (Keeps.refl w1).drew⟩⟩⟩⟩
theorem ret143 (V m : List UInt8) (hV : V = le32 (V.length : Int) ++ m) (h4 : 4 ≤ V.length) (r : List UInt8) (p : Option Addr) (n c : Nat) (w : World)
    (hr : ReadsB w p (V ++ r)) (hn : n = (V ++ r).length) (hc : n ≤ c) (hlim : n ≤ 2000000000) :
    Ret 143 [.slice p n c] w (.tuple ⟨[.slice p V.length c, .slice (slAddr p c V.length 1) (n - V.length) (c - V.length), .bool true]⟩) := by
  refine Ret.of (c143 _ _ _ w _ ?_)
  unfold VC143
  exact (ret205 V m hV h4 r p n c w hr hn hc hlim).go fun w1 hk1 => ⟨_, _, _, _, _, _, _, rfl, rfl, hk1⟩
theorem ret144 (V m : List UInt8) (hV : V = le32 (V.length : Int) ++ m) (h4 : 4 ≤ V.length) (r : List UInt8) (p : Option Addr) (n c : Nat) (w : World)
    (hr : ReadsB w p (V ++ r)) (hn : n = (V ++ r).length) (hc : n ≤ c) (hlim : n ≤ 2000000000) :
    Ret 144 [.slice p n c] w (.tuple ⟨[.slice p V.length c, .slice (slAddr p c V.length 1) (n - V.length) (c - V.length), .bool true]⟩) := by
  refine Ret.of (c144 _ _ _ w _ ?_)
  unfold VC144
  exact (ret205 V m hV h4 r p n c w hr hn hc hlim).go fun w1 hk1 => ⟨_, _, _, _, _, _, _, rfl, rfl, hk1⟩
theorem ret139 (s r : List UInt8) (p : Option Addr) (n c : Nat) (w : World) (hs : s.length ≤ 1000000) (hr : ReadsB w p (docText s ++ r)) (hn : n = (docText s ++ r).length) (hc : n ≤ c) :
    ∃ q m k, Ret 139 [.slice p n c] w (.tuple ⟨[.string (mkS s), .slice q m k, .bool true]⟩) := by
  obtain ⟨rm, h, rfl⟩ := ret201 s r p n c w hs hr hn hc
  refine ⟨slAddr (slAddr p c 4 1) (c - 4) (s.length + 1) 1, n - 4 - (s.length + 1), c - 4 - (s.length + 1), ?_⟩
  refine Ret.of (c139 _ _ _ w _ ?_)
  unfold VC139
  exact h.go fun w1 hk1 => ⟨_, _, _, _, _, rfl, rfl, hk1⟩
abbrev rawV (t : Int) (p : Option Addr) (n c : Nat) : Value := .agg ⟨[.int .u8 t, .slice p n c]⟩
theorem ret81 (s : List UInt8) (p : Option Addr) (n c : Nat) (w : World) (hs : s.length ≤ 1000000) (hr : ReadsB w p (docText s)) (hn : n = (docText s).length) (hc : n ≤ c) :
    Ret 81 [rawV 2 p n c] w (.tuple ⟨[.string (mkS s), .bool true]⟩) := by
  refine Ret.of (c81 _ _ _ _ w _ ?_)
  unfold VC81
  intro w1 hw1
  have hk1 : Keeps w w1 := by rw [hw1]; exact (Keeps.refl w).alloc _
  have hv1 : Var w1 w.heap.size 92 [.int .u8 2, .slice p n c] := by rw [hw1]; exact var_alloc w _ 92
  obtain ⟨q, m, k, h⟩ := ret139 s [] p n c w1 hs (by rw [List.append_nil]; exact hr.keeps hk1) (by rw [List.append_nil]; exact hn) hc
  exact ⟨2, hv1.lies.at 0 rfl rfl, (fun h => absurd h (by decide)), fun _ => ⟨p, n, c, hv1.lies.at 1 rfl rfl, h.go fun w2 hk2 => ⟨_, _, _, _, _, rfl, (fun h => by cases h), fun _ => ⟨rfl, hk1.trans hk2⟩⟩⟩⟩
theorem ret81n (t : Int) (ht : t ≠ 2) (p : Option Addr) (n c : Nat) (w : World) : Ret 81 [rawV t p n c] w (.tuple ⟨[.string (mkS []), .bool false]⟩) := by
  refine Ret.of (c81 _ _ _ _ w _ ?_)
  unfold VC81
  intro w1 hw1
  have hk1 : Keeps w w1 := by rw [hw1]; exact (Keeps.refl w).alloc _
  have hv1 : Var w1 w.heap.size 92 [.int .u8 t, .slice p n c] := by rw [hw1]; exact var_alloc w _ 92
  exact ⟨t, hv1.lies.at 0 rfl rfl, fun _ => ⟨rfl, hk1⟩, fun h => by simp [ht] at h⟩
theorem ret83 (V m : List UInt8) (hV : V = le32 (V.length : Int) ++ m) (h4 : 4 ≤ V.length) (p : Option Addr) (n c : Nat) (w : World) (hr : ReadsB w p V) (hn : n = V.length) (hc : n ≤ c) (hlim : n ≤ 2000000000) :
    Ret 83 [rawV 3 p n c] w (.tuple ⟨[.slice p n c, .bool true]⟩) := by
  refine Ret.of (c83 _ _ _ _ w _ ?_)
  unfold VC83
  intro w1 hw1
  have hk1 : Keeps w w1 := by rw [hw1]; exact (Keeps.refl w).alloc _
  have hv1 : Var w1 w.heap.size 92 [.int .u8 3, .slice p n c] := by rw [hw1]; exact var_alloc w _ 92
  refine ⟨3, hv1.lies.at 0 rfl rfl, (fun h => absurd h (by decide)), fun _ => ⟨p, n, c, hv1.lies.at 1 rfl rfl, ?_⟩⟩
  refine (ret143 V m hV h4 [] p n c w1 (by rw [List.append_nil]; exact hr.keeps hk1) (by rw [List.append_nil]; exact hn) hc hlim).go fun w2 hk2 => ⟨_, _, _, _, _, _, _, rfl, (fun h => by cases h), fun _ => ⟨by rw [hn], hk1.trans hk2⟩⟩
theorem ret84 (V m : List UInt8) (hV : V = le32 (V.length : Int) ++ m) (h4 : 4 ≤ V.length) (p : Option Addr) (n c : Nat) (w : World) (hr : ReadsB w p V) (hn : n = V.length) (hc : n ≤ c) (hlim : n ≤ 2000000000) :
    Ret 84 [rawV 4 p n c] w (.tuple ⟨[.slice p n c, .bool true]⟩) := by
  refine Ret.of (c84 _ _ _ _ w _ ?_)
  unfold VC84
  intro w1 hw1
  have hk1 : Keeps w w1 := by rw [hw1]; exact (Keeps.refl w).alloc _
  have hv1 : Var w1 w.heap.size 92 [.int .u8 4, .slice p n c] := by rw [hw1]; exact var_alloc w _ 92
  refine ⟨4, hv1.lies.at 0 rfl rfl, (fun h => absurd h (by decide)), fun _ => ⟨p, n, c, hv1.lies.at 1 rfl rfl, ?_⟩⟩
  refine (ret144 V m hV h4 [] p n c w1 (by rw [List.append_nil]; exact hr.keeps hk1) (by rw [List.append_nil]; exact hn) hc hlim).go fun w2 hk2 => ⟨_, _, _, _, _, _, _, rfl, (fun h => by cases h), fun _ => ⟨by rw [hn], hk1.trans hk2⟩⟩
theorem ret84n (t : Int) (ht : t ≠ 4) (p : Option Addr) (n c : Nat) (w : World) : Ret 84 [rawV t p n c] w (.tuple ⟨[.slice none 0 0, .bool false]⟩) := by
  refine Ret.of (c84 _ _ _ _ w _ ?_)
  unfold VC84
  intro w1 hw1
  have hk1 : Keeps w w1 := by rw [hw1]; exact (Keeps.refl w).alloc _
  have hv1 : Var w1 w.heap.size 92 [.int .u8 t, .slice p n c] := by rw [hw1]; exact var_alloc w _ 92
  exact ⟨t, hv1.lies.at 0 rfl rfl, fun _ => ⟨rfl, hk1⟩, fun h => by simp [ht] at h⟩
end Go.Proofs.Tryz
