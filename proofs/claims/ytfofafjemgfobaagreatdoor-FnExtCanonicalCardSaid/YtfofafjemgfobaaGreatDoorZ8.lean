/- Parts of a proof, joined: A5, A6. -/
import Derived.Test.YtfofafjemgfobaaGreatDoorZ6
import Derived.Test.YtfofafjemgfobaaGreatDoorZ4
import Derived.Test.YtfofafjemgfobaaGreatDoorZ7
/- Is a value right: what the guards of the law ask (first part). -/
set_option linter.unusedVariables false
namespace Go.Proofs.Tryz
open Go.Vc Go.RowKit

theorem ret6 (x : Val) (bp kp : Option Addr) (bc kc : Nat) (w : World) (b : Bool)
    (hb : b = (decide (x.text.length ≤ 2147483647) && decide (x.more.length ≤ 2147483647) && decide (x.b.length ≤ 2147483647) && decide (x.kids.length ≤ 2147483647))) :
    Ret 6 [.agg ⟨valCells x bp bc kp kc⟩] w (.bool b) := by
  refine Ret.of (c6 _ _ _ _ _ _ _ _ _ _ _ _ w _ ?_)
  unfold VC6
  intro w1 hw1
  have hl : Lies w1 w.heap.size 0 (valCells x bp bc kp kc) := by rw [hw1]; exact lies_alloc w _ 26
  have hk : Keeps w w1 := by rw [hw1]; exact (Keeps.refl w).alloc _
  subst hb
  refine ⟨x.text, hl.at 1 rfl rfl, fun h => ⟨?_, hk⟩, fun h => ⟨x.more, hl.at 2 rfl rfl, fun h' => ⟨?_, hk⟩, fun h' => ⟨bp, x.b.length, bc, hl.at 6 rfl rfl, fun h2 => ⟨?_, hk⟩, fun h2 => ⟨kp, x.kids.length, kc, hl.at 7 rfl rfl, fun h3 => ⟨?_, hk⟩, fun h3 => ⟨?_, hk⟩⟩⟩⟩⟩ <;> simp only [decide_eq_true_eq, decide_eq_false_iff_not] at *
  · have : ¬ x.text.length ≤ 2147483647 := by omega
    simp [this]
  · have : ¬ x.more.length ≤ 2147483647 := by omega
    simp [this]
  · have : ¬ x.b.length ≤ 2147483647 := by omega
    simp [this]
  · have : ¬ x.kids.length ≤ 2147483647 := by omega
    simp [this]
  · have h1 : x.text.length ≤ 2147483647 := by omega
    have h2 : x.more.length ≤ 2147483647 := by omega
    have h3 : x.b.length ≤ 2147483647 := by omega
    have h4 : x.kids.length ≤ 2147483647 := by omega
    simp [h1, h2, h3, h4]

def knownB (k : Int) : Bool := (decide (1 ≤ k) && decide (k ≤ 19)) || decide (k = 255) || decide (k = 127)
theorem ret113 (k : Int) (w : World) : Ret 113 [.int .i64 k] w (.bool (knownB k)) := by
  refine Ret.of (c113 k w _ ?_)
  unfold VC113 knownB
  refine ⟨fun h1 => ⟨fun h2 => ⟨?_, Keeps.refl _⟩, fun h2 => ⟨fun h3 => ⟨?_, Keeps.refl _⟩, fun h3 => ⟨?_, Keeps.refl _⟩⟩⟩, fun h1 => ⟨fun h3 => ⟨?_, Keeps.refl _⟩, fun h3 => ⟨?_, Keeps.refl _⟩⟩⟩ <;> simp [*]

def plainB (s : List UInt8) : Bool := s.all fun b => !decide (b = 0)
theorem ret115 (s : List UInt8) (w : World) (hl : s.length ≤ 1099511627776) : ∃ b, Ret 115 [.string (mkS s)] w (.bool b) := by
  refine ⟨plainB s, Ret.of (c115 s w _ ?_)⟩
  unfold VC115
  refine ⟨fun m i w' => w' = w ∧ ∃ k : Nat, i = k ∧ k ≤ s.length ∧ m = s.length - k ∧ plainB s = plainB (s.drop k), ⟨s.length, rfl, 0, rfl, by omega, rfl, rfl⟩, ?_⟩
  rintro m i w' ⟨rfl, k, rfl, hk, rfl, hp⟩
  refine ⟨fun h => ?_, fun h => ?_⟩
  · simp only [decide_eq_true_eq] at h
    have hlt : k < s.length := by omega
    have hget := List.getElem?_eq_getElem hlt
    have hd : s.drop k = s[k]'hlt :: s.drop (k + 1) := List.drop_eq_getElem_cons hlt
    have hz : (s[k]'hlt).toNat = 0 ↔ s[k]'hlt = 0 := ⟨fun e => UInt8.toNat_inj.1 (by rw [e]; rfl), fun e => by rw [e]; rfl⟩
    refine ⟨s[k]'hlt, ⟨by omega, hget⟩, fun h0 => ⟨?_, Keeps.refl _⟩, fun h0 => ⟨_, i64w (by omega) (by omega), s.length - (k + 1), by omega, rfl, k + 1, by omega, by omega, rfl, ?_⟩⟩
    · simp only [decide_eq_true_eq] at h0
      have : s[k]'hlt = 0 := hz.1 (by omega)
      rw [hp, hd]; simp [plainB, this]
    · simp only [decide_eq_false_iff_not] at h0
      have : ¬ s[k]'hlt = 0 := fun e => h0 (by rw [e]; rfl)
      rw [hp, hd]; unfold plainB; rw [List.all_cons, decide_eq_false this]; rfl
  · simp only [decide_eq_false_iff_not] at h
    have hd : s.drop k = [] := List.drop_eq_nil_of_le (by omega)
    refine ⟨?_, Keeps.refl _⟩
    rw [hp, hd]; rfl

theorem digit_conv (w w1 : World) (d : UInt8) (x : Int) (hx : x = (d.toNat : Int)) (h : w1 = w.alloc (.cells ⟨[.int .u8 x]⟩ 5)) :
    (convert 23 9 (.slice (some (⟨w.heap.size, 0, none⟩)) 1 1)).run prog w1 = .ok (.string (mkS [d])) w1 := by
  subst h hx
  have ho := Own.new w.heap.size w [d] (Nat.le_refl _) (by simp)
  exact conv_string (n := 1) ho.reads rfl

/-- A number in decimal digits: some text. -/
theorem ret116 : ∀ (m : Nat) (n : Int), m ≤ 1125899906842625 → 0 ≤ n → n < m → n ≤ 9223372036854775807 → ∃ t : List UInt8, t.length ≤ m ∧ ∀ w, Ret 116 [.int .i64 n] w (.string (mkS t))
  | 0, n, _, h0, h1, _ => by omega
  | m + 1, n, hm, h0, h1, h2 => by
    by_cases hn : n < 10
    · refine ⟨[UInt8.ofNat (48 + n.toNat)], by simp, fun w => Ret.of (c116 n w _ ?_)⟩
      unfold VC116
      refine ⟨fun _ => ⟨_, i64w (by omega) (by omega), _, u8w (by omega) (by omega), fun w1 hw1 => ?_⟩, fun h => by simp only [decide_eq_false_iff_not] at h; omega⟩
      have e : 48 + n = ((UInt8.ofNat (48 + n.toNat)).toNat : Int) := by rw [u8_toNat_ofNat _ (by omega)]; omega
      exact ⟨_, w1, digit_conv w w1 _ _ e hw1, rfl, by rw [hw1]; exact (Keeps.refl w).alloc _⟩
    · have hdiv : n.tdiv 10 = n / 10 := Int.tdiv_eq_ediv_of_nonneg h0
      have hmod : n.tmod 10 = n % 10 := Int.tmod_eq_emod_of_nonneg h0
      obtain ⟨t, ht, hret⟩ := ret116 m (n / 10) (by omega) (by omega) (by omega) (by omega)
      refine ⟨t ++ [UInt8.ofNat (48 + (n % 10).toNat)], by simp; omega, fun w => Ret.of (c116 n w _ ?_)⟩
      unfold VC116
      rw [hdiv, hmod]
      have e : 48 + n % 10 = ((UInt8.ofNat (48 + (n % 10).toNat)).toNat : Int) := by rw [u8_toNat_ofNat _ (by omega)]; omega
      refine ⟨fun h => by simp only [decide_eq_true_eq] at h; omega, fun _ => ⟨[], trivial, by decide, _, i64w (by omega) (by omega), by decide, _, rfl, _, i64w (n := 48 + n % 10) (by omega) (by omega), _, u8w (by omega) (by omega), ?_, ?_⟩⟩
      · refine (hret w.drew).go fun w3 hk3 => ⟨_, rfl, fun w4 hw4 => ⟨_, w4, digit_conv w3 w4 _ _ e hw4, ?_, rfl, ?_⟩⟩
        · simp; omega
        · rw [hw4]; exact (Keeps.trans ((Keeps.refl w).drew) hk3).alloc _
      · intro w6 hw6
        have hk6 : Keeps w w6 := by rw [hw6]; exact ((Keeps.refl w).drew).alloc _
        have hconv := digit_conv w.drew w6 _ _ e hw6
        have hO : Own w.heap.size w6 (some ⟨w.drew.heap.size, 0, none⟩) 1 1 [UInt8.ofNat (48 + (n % 10).toNat)] := by
          rw [hw6, e]; exact Own.new w.heap.size w.drew [_] (Nat.le_refl _) (by simp)
        refine ⟨?_, ?_⟩
        · refine (hret w6).go fun w7 hk7 => ⟨_, rfl, _, w7, conv_string (n := 1) (hO.keeps hk7).reads rfl, ?_, rfl, hk6.trans hk7⟩
          simp; omega
        · refine ⟨_, w6, hconv, ?_⟩
          refine (hret w6).go fun w10 hk10 => ⟨_, rfl, ?_, rfl, hk6.trans hk10⟩
          simp; omega

/-- Docs without the fields that its kind names: some row of the same shape. -/
def Row8 (cs : List Value) : Prop := ∃ (k : Int) (t m : List UInt8) (n b h : Int) (bp : Option Addr) (bn bc : Nat) (kp : Option Addr) (kn kc : Nat),
  cs = [.int .i64 k, .string (mkS t), .string (mkS m), .int .i64 n, .int .u64 b, .int .u64 h, .slice bp bn bc, .slice kp kn kc]
theorem row8_val (x : Val) (bp kp : Option Addr) (bc kc : Nat) : Row8 (valCells x bp bc kp kc) := ⟨_, _, _, _, _, _, _, _, _, _, _, _, rfl⟩

theorem ret114 (x : Val) (bp kp : Option Addr) (bc kc : Nat) (w : World) :
    Calls prog 114 ⟨[.agg ⟨valCells x bp bc kp kc⟩]⟩ w fun e w' => ∃ cs, e = .returned (.agg ⟨cs⟩) ∧ Row8 cs ∧ Keeps w w' := by
  have := c114 x.kind x.text x.more x.num x.bits x.high bp x.b.length bc kp x.kids.length kc w (fun v w' => ∃ cs, v = .agg ⟨cs⟩ ∧ Row8 cs ∧ Keeps w w') ?_
  · exact this.mono fun e w' ⟨v, he, cs, hv, h⟩ => ⟨cs, by rw [he, hv], h⟩
  unfold VC114
  intro w1 hw1 w2 hw2
  intro K hK
  let zs : List Value := [.int .i64 0, .string (mkS []), .string (mkS []), .int .i64 0, .int .u64 0, .int .u64 0, .slice none 0 0, .slice none 0 0]
  have hs1 : w1.heap.size = w.heap.size + 1 := by rw [hw1]; simp
  have hk1 : Keeps w w1 := by rw [hw1]; exact (Keeps.refl w).alloc _
  have hk2 : Keeps w1 w2 := by rw [hw2]; exact (Keeps.refl w1).alloc _
  have hv1 : Var w1 w.heap.size 26 (valCells x bp bc kp kc) := by rw [hw1]; exact var_alloc w _ 26
  have hz2 : Var w2 w1.heap.size 26 zs := by rw [hw2]; exact var_alloc w1 _ 26
  let J : World → Prop := fun w' => Keeps w w' ∧ (∃ cs, Row8 cs ∧ Var w' w.heap.size 26 cs) ∧ Var w' w1.heap.size 26 zs
  have hJ2 : J w2 := ⟨hk1.trans hk2, ⟨_, row8_val x bp kp bc kc, hv1.keeps hk2⟩, hz2⟩
  have can : ∀ w' j v, J w' → j < 8 → v.oneCell' = true → CanStore w' ⟨w.heap.size, j, none⟩ v := by
    rintro w' j v ⟨_, ⟨cs, ⟨k, t, m, n, b, h, bp, bn, bc, kp, kn, kc, rfl⟩, hv⟩, _⟩ hj hov
    exact hv.can (by simpa using hj) hov
  have set : ∀ w' w'' j v, J w' → w'' = w'.setCell ⟨w.heap.size, j, none⟩ v → (∀ cs, Row8 cs → Row8 (cs.set j v)) → J w'' := by
    rintro w' w'' j v ⟨hk, ⟨cs, hr, hv⟩, hz⟩ rfl hset
    refine ⟨Below.setCell hk (Nat.le_refl _) v, ⟨_, hset cs hr, hv.set j v⟩, hz.keep ?_⟩
    exact Below.heap_setCell _ _ _ _ (by simp only; omega)
  have key : ∀ w', J w' → K w' := by
    rintro w' ⟨hk, ⟨cs, ⟨k, t, m, n, b, h, bp, bn, bc, kp, kn, kc, rfl⟩, hv⟩, hz⟩
    refine hK w' ⟨k, t, m, n, b, h, bp, bn, bc, kp, kn, kc, hv.lies.row n26, ?_⟩
    obtain ⟨w4, hr, hg, hs, hv4⟩ := store_row hz n26 (zs := zs) (cs := [.int .i64 k, .string (mkS t), .string (mkS m), .int .i64 n, .int .u64 b, .int .u64 h, .slice bp bn bc, .slice kp kn kc]) rfl rfl rfl
    exact ⟨w4, hr, _, hv4.lies.row n26, _, rfl, ⟨k, t, m, n, b, h, bp, bn, bc, kp, kn, kc, rfl⟩, Below.grown hk hg hk.size (fun j hj => by simp at hj; omega)⟩
  have s0 : ∀ cs, Row8 cs → Row8 (cs.set 4 (.int .u64 0)) := by rintro cs ⟨k, t, m, n, b, h, bp, bn, bc, kp, kn, kc, rfl⟩; exact ⟨_, _, _, _, _, _, _, _, _, _, _, _, rfl⟩
  have s1 : ∀ cs, Row8 cs → Row8 (cs.set 1 (.string (mkS []))) := by rintro cs ⟨k, t, m, n, b, h, bp, bn, bc, kp, kn, kc, rfl⟩; exact ⟨_, _, _, _, _, _, _, _, _, _, _, _, rfl⟩
  have s2 : ∀ cs, Row8 cs → Row8 (cs.set 2 (.string (mkS []))) := by rintro cs ⟨k, t, m, n, b, h, bp, bn, bc, kp, kn, kc, rfl⟩; exact ⟨_, _, _, _, _, _, _, _, _, _, _, _, rfl⟩
  have s3 : ∀ cs, Row8 cs → Row8 (cs.set 3 (.int .i64 0)) := by rintro cs ⟨k, t, m, n, b, h, bp, bn, bc, kp, kn, kc, rfl⟩; exact ⟨_, _, _, _, _, _, _, _, _, _, _, _, rfl⟩
  have s5 : ∀ cs, Row8 cs → Row8 (cs.set 5 (.int .u64 0)) := by rintro cs ⟨k, t, m, n, b, h, bp, bn, bc, kp, kn, kc, rfl⟩; exact ⟨_, _, _, _, _, _, _, _, _, _, _, _, rfl⟩
  have s6 : ∀ cs, Row8 cs → Row8 (cs.set 6 (.slice none 0 0)) := by rintro cs ⟨k, t, m, n, b, h, bp, bn, bc, kp, kn, kc, rfl⟩; exact ⟨_, _, _, _, _, _, _, _, _, _, _, _, rfl⟩
  have s7 : ∀ cs, Row8 cs → Row8 (cs.set 7 (.slice none 0 0)) := by rintro cs ⟨k, t, m, n, b, h, bp, bn, bc, kp, kn, kc, rfl⟩; exact ⟨_, _, _, _, _, _, _, _, _, _, _, _, rfl⟩
  have one : ∀ w' j v, J w' → j < 8 → v.oneCell' = true → (∀ cs, Row8 cs → Row8 (cs.set j v)) → CanStore w' ⟨w.heap.size, j, none⟩ v ∧ ∀ w'', w'' = w'.setCell ⟨w.heap.size, j, none⟩ v → K w'' :=
    fun w' j v hj h1 h2 h3 => ⟨can w' j v hj h1 h2, fun w'' e => key _ (set _ _ _ _ hj e h3)⟩
  have two : ∀ w' j v j' v', J w' → j < 8 → v.oneCell' = true → (∀ cs, Row8 cs → Row8 (cs.set j v)) → j' < 8 → v'.oneCell' = true → (∀ cs, Row8 cs → Row8 (cs.set j' v')) →
      CanStore w' ⟨w.heap.size, j, none⟩ v ∧ ∀ w'', w'' = w'.setCell ⟨w.heap.size, j, none⟩ v → CanStore w'' ⟨w.heap.size, j', none⟩ v' ∧ ∀ w3, w3 = w''.setCell ⟨w.heap.size, j', none⟩ v' → K w3 :=
    fun w' j v j' v' hj h1 h2 h3 h4 h5 h6 => ⟨can w' j v hj h1 h2, fun w'' e => one w'' j' v' (set _ _ _ _ hj e h3) h4 h5 h6⟩
  refine ⟨x.kind, (hv1.keeps hk2).lies.at 0 rfl rfl, ?_⟩
  intro K1 hK1
  have k1 : ∀ b, K1 b w2 := by
    intro b
    refine hK1 b w2 ⟨fun _ => one w2 4 _ hJ2 (by decide) rfl s0, fun _ => ?_⟩
    intro K2 hK2
    have k2 : ∀ b, K2 b w2 := by
      intro b
      refine hK2 b w2 ⟨fun _ => one w2 1 _ hJ2 (by decide) rfl s1, fun _ => ?_⟩
      intro K3 hK3
      have k3 : ∀ b, K3 b w2 := by
        intro b
        refine hK3 b w2 ⟨fun _ => one w2 7 _ hJ2 (by decide) rfl s7, fun _ => ⟨fun _ => two w2 3 _ 6 _ hJ2 (by decide) rfl s3 (by decide) rfl s6, fun _ => ⟨fun _ => one w2 6 _ hJ2 (by decide) rfl s6, fun _ => ?_⟩⟩⟩
        intro K4 hK4
        have k4 : ∀ b, K4 b w2 := by
          intro b
          exact hK4 b w2 ⟨fun _ => one w2 3 _ hJ2 (by decide) rfl s3, fun _ => ⟨fun _ => two w2 1 _ 2 _ hJ2 (by decide) rfl s1 (by decide) rfl s2, fun _ => ⟨fun _ => two w2 1 _ 6 _ hJ2 (by decide) rfl s1 (by decide) rfl s6,
            fun _ => ⟨fun _ => two w2 1 _ 7 _ hJ2 (by decide) rfl s1 (by decide) rfl s7, fun _ => ⟨fun _ => two w2 4 _ 5 _ hJ2 (by decide) rfl s0 (by decide) rfl s5, fun _ => key w2 hJ2⟩⟩⟩⟩⟩
        exact ⟨fun _ => k4 _, fun _ => ⟨fun _ => k4 _, fun _ => ⟨fun _ => k4 _, fun _ => k4 _⟩⟩⟩
      exact ⟨fun _ => k3 _, fun _ => k3 _⟩
    exact ⟨fun _ => k2 _, fun _ => ⟨fun _ => k2 _, fun _ => k2 _⟩⟩
  exact ⟨fun _ => k1 _, fun _ => k1 _⟩
end Go.Proofs.Tryz
/- Is a value right: what the guards of the law ask (second part). -/
set_option linter.unusedVariables false
namespace Go.Proofs.Tryz
open Go.Vc Go.RowKit

/-! ### Cells that are kept in sight -/
def rowFacts (b o : Nat) (cs : List Value) : List (Addr × Value) := cs.zipIdx.map fun p => (⟨b, o + p.2, none⟩, p.1)
theorem mem_rowFacts {b o : Nat} {cs : List Value} {i : Nat} {v : Value} (h : cs[i]? = some v) : ((⟨b, o + i, none⟩ : Addr), v) ∈ rowFacts b o cs := by
  unfold rowFacts
  rw [List.mem_map]
  exact ⟨(v, i), List.mem_zipIdx_iff_getElem?.2 h, rfl⟩
theorem mem_rowFacts_add {b o : Nat} {cs : List Value} {i : Nat} {v : Value} (h : cs[i]? = some v) : ((⟨b, o, none⟩ : Addr).add i, v) ∈ rowFacts b o cs := by
  rw [add_at]; exact mem_rowFacts h
theorem kept_of {w : World} : ∀ {f : List (Addr × Value)}, (∀ p ∈ f, w.cell? p.1 = some p.2) → Kept w f
  | [], _ => trivial
  | [p], h => h p (by simp)
  | p :: q :: r, h => ⟨h p (by simp), kept_of fun x hx => h x (List.mem_cons_of_mem _ hx)⟩
theorem kept_keeps {w w' : World} {f : List (Addr × Value)} (h : Kept w f) (k : Keeps w w') : Kept w' f := kept_of fun p hp => k.cell (h.at p hp)
theorem kept_append {w : World} {f g : List (Addr × Value)} (h : Kept w f) (k : Kept w g) : Kept w (f ++ g) := kept_of fun p hp => by
  rcases List.mem_append.1 hp with hp | hp
  · exact h.at p hp
  · exact k.at p hp
theorem Lies.kept {w : World} {b o : Nat} {cs : List Value} (h : Lies w b o cs) : Kept w (rowFacts b o cs) := kept_of fun p hp => by
  unfold rowFacts at hp
  rw [List.mem_map] at hp
  obtain ⟨⟨v, i⟩, hx, rfl⟩ := hp
  exact h i v (List.mem_zipIdx_iff_getElem?.1 hx)

/-! ### What the guards give -/
def coefN (h l : Int) : Nat := (h.toNat % 2 ^ 49) * 2 ^ 64 + l.toNat
def DecOK (h l : Int) : Prop := (h.toNat / 2 ^ 58 % 32 = 30 ∨ h.toNat / 2 ^ 58 % 32 = 31) ∨ (h.toNat / 2 ^ 61 % 4 ≠ 3 ∧ coefN h l < 10 ^ 34)
def lettersUp (s : List UInt8) : Prop := (∀ b ∈ s, 97 ≤ b.toNat ∧ b.toNat ≤ 122) ∧ sortedB s
def OwnFits (x : Val) : Prop := textF x.text = true ∧ textF x.more = true ∧ x.b.length ≤ 300 ∧ (x.kind = 12 → strF true x.text = 34 :: (x.text ++ [34])) ∧ (x.kind = 19 → DecOK x.high x.bits) ∧ (x.kind = 11 → lettersUp x.more)
def FitsV : Nat → Val → Prop
  | 0, x => OwnFits x ∧ x.kids = []
  | d + 1, x => OwnFits x ∧ ∀ n y, (n, y) ∈ x.kids → textF n = true ∧ FitsV d y
theorem FitsV.own {d : Nat} {x : Val} (h : FitsV d x) : OwnFits x := by
  cases d <;> exact h.1
theorem textF_len {s : List UInt8} (h : textF s = true) : s.length ≤ 300 := by
  unfold textF at h; simp only [Bool.and_eq_true, decide_eq_true_eq] at h; exact h.1
theorem textF_utf8 {s : List UInt8} (h : textF s = true) : utf8F s = true := by
  unfold textF at h; simp only [Bool.and_eq_true, decide_eq_true_eq] at h; exact h.2
def OwnRight (x : Val) : Prop := knownB x.kind = true ∧ (x.kind = 7 ∨ x.kind = 12 → x.b.length = 12) ∧ (x.kind = 8 → x.num = 0 ∨ x.num = 1) ∧ (x.kind = 16 → -2147483648 ≤ x.num ∧ x.num < 2147483648)
def RightV : Nat → Val → Prop
  | 0, x => OwnRight x
  | d + 1, x => OwnRight x ∧ ((x.kind = 3 ∨ x.kind = 4 ∨ x.kind = 15) → ∀ n y, (n, y) ∈ x.kids → RightV d y)

theorem cells9 (n : List UInt8) (y : Val) (bp kp : Option Addr) (bc kc : Nat) : (Value.string (mkS n) :: valCells y bp bc kp kc).all (·.oneCell') = true := rfl

/-- Called so, the function returns a truth value of which 'P' speaks, and what was there is as it was. -/
def RetB (k : Nat) (args : List Value) (w : World) (P : Bool → Prop) : Prop := Calls prog k ⟨args⟩ w fun e w' => ∃ b, e = .returned (.bool b) ∧ P b ∧ Keeps w w'
theorem RetB.of {k : Nat} {args : List Value} {w : World} {P : Bool → Prop} (h : Calls prog k ⟨args⟩ w fun e w' => ∃ u, e = .returned u ∧ (∃ b, u = .bool b ∧ P b ∧ Keeps w w')) : RetB k args w P :=
  Calls.mono h fun e w' ⟨u, he, b, hu, hp, hk⟩ => ⟨b, by rw [he, hu], hp, hk⟩
theorem RetB.go {k : Nat} {args : List Value} {w : World} {P : Bool → Prop} (h : RetB k args w P) {Q : Ending → World → Prop} (hq : ∀ b w', P b → Keeps w w' → Q (.returned (.bool b)) w') : Calls prog k ⟨args⟩ w Q :=
  Calls.mono h fun e w' ⟨b, he, hp, hk⟩ => by rw [he]; exact hq b w' hp hk

theorem Hangs.kid {d : Nat} {w : World} {x : Val} {bp : Option Addr} {bc : Nat} {kp : Option Addr} {kc : Nat} (h : Hangs (d + 1) w x bp bc kp kc) {i : Nat} {n : List UInt8} {y : Val} (hi : x.kids[i]? = some (n, y)) :
    ∃ (ka : Addr) (bp' : Option Addr) (bc' : Nat) (kp' : Option Addr) (kc' : Nat), kp = some ka ∧
      LoadsRow prog 46 w (ka.add (i * 9)) (Value.string (mkS n) :: valCells y bp' bc' kp' kc') ∧ Hangs d w y bp' bc' kp' kc' := by
  obtain ⟨ka, bp', bc', kp', kc', h1, h2, h3⟩ := h.2 i n y hi
  exact ⟨ka, bp', bc', kp', kc', h1, ⟨n46, h2⟩, h3⟩
theorem FitsV.kid {d : Nat} {x : Val} (h : FitsV d x) {i : Nat} {n : List UInt8} {y : Val} (hi : x.kids[i]? = some (n, y)) : ∃ d', d = d' + 1 ∧ textF n = true ∧ FitsV d' y := by
  cases d with
  | zero => rw [h.2] at hi; simp at hi
  | succ d => exact ⟨d, rfl, h.2 n y (List.mem_of_getElem? hi)⟩

theorem ret60 : ∀ (d : Nat) (x : Val) (bp kp : Option Addr) (bc kc : Nat) (deep : Int) (w : World), Hangs d w x bp bc kp kc → FitsV d x → (d : Int) < deep → deep ≤ 200 →
    RetB 60 [.agg ⟨valCells x bp bc kp kc⟩, .int .i64 deep] w (fun b => b = true → RightV d x) := by
  intro d
  induction d using Nat.strongRecOn with
  | _ d ih =>
  intro x bp kp bc kc deep w hh hf hd1 hd2
  refine RetB.of (c60 _ _ _ _ _ _ _ _ _ _ _ _ deep w (fun u w' => ∃ b, u = .bool b ∧ (b = true → RightV d x) ∧ Keeps w w') ?_)
  unfold VC60
  intro w1 hw1
  have hk1 : Keeps w w1 := by rw [hw1]; exact (Keeps.refl w).alloc _
  have hv1 : Var w1 w.heap.size 26 (valCells x bp bc kp kc) := by rw [hw1]; exact var_alloc w _ 26
  have no : ∀ w', Keeps w w' → ∃ b, Value.bool false = .bool b ∧ (b = true → RightV d x) ∧ Keeps w w' := fun w' hk => ⟨false, rfl, (fun h => by cases h), hk⟩
  have hof := hf.own
  have hkl2 := hh.own.2.2.2.2.2.2.2
  refine ⟨x.kind, hv1.lies.at 0 rfl rfl, ?_⟩
  refine (ret113 x.kind w1).go fun w2 hk2 => ⟨_, rfl, fun h => no _ (hk1.trans hk2), fun hkn => ?_⟩
  have hkn : knownB x.kind = true := by simpa using hkn
  have hk2' := hk1.trans hk2
  have hv2 := hv1.keeps hk2
  refine ⟨fun h => no _ hk2', fun _ => ?_⟩
  refine ⟨_, _, _, _, _, _, _, _, _, _, _, _, hv2.lies.row n26, ?_⟩
  refine (ret114 x bp kp bc kc w2).mono fun e w3 ⟨cs, he, hr8, hk3⟩ => ⟨cs, he, fun w4 hw4 => ?_⟩
  obtain ⟨k8, t8, m8, n8, b8, h8, bp8, bn8, bc8, kp8, kn8, kc8, rfl⟩ := hr8
  obtain ⟨w5, hst, hk5, hs5, hv5x⟩ := store_new (t := 26) (cs := [.int .i64 k8, .string (mkS t8), .string (mkS m8), .int .i64 n8, .int .u64 b8, .int .u64 h8, .slice bp8 bn8 bc8, .slice kp8 kn8 kc8]) hw4 n26 rfl rfl rfl
  have hk3' := hk2'.trans hk3
  have hk5' := hk3'.trans hk5
  have hv5 := (hv2.keeps hk3).keeps hk5
  have hx5 := hv5x.lies
  refine ⟨w5, hst, t8, hx5.at 1 rfl rfl, fun _ => no _ hk5', fun _ => ⟨m8, hx5.at 2 rfl rfl, fun _ => no _ hk5', fun _ => ⟨n8, hx5.at 3 rfl rfl, fun _ => no _ hk5', fun _ => ⟨b8, hx5.at 4 rfl rfl, fun _ => no _ hk5', fun _ => ⟨h8, hx5.at 5 rfl rfl, fun _ => no _ hk5',
    fun _ => ⟨bp8, bn8, bc8, hx5.at 6 rfl rfl, fun _ => no _ hk5', fun _ => ⟨kp8, kn8, kc8, hx5.at 7 rfl rfl, fun _ => no _ hk5', fun _ => ?_⟩⟩⟩⟩⟩⟩⟩
  intro Kx hK
  -- what is right of its own, without the kids
  have right0 : OwnRight x → (x.kind = 3 ∨ x.kind = 4 ∨ x.kind = 15 → False) → RightV d x := fun h1 h2 => by
    cases d with
    | zero => exact h1
    | succ d => exact ⟨h1, fun h => (h2 h).elim⟩
  have kx : ∀ w6, Keeps w w6 → Var w6 w.heap.size 26 (valCells x bp bc kp kc) → OwnRight x → Kx w6 := by
    intro w6 hk6 hv6 hown
    refine hK w6 ⟨fun m i w7 => Keeps w w7 ∧ Var w7 w.heap.size 26 (valCells x bp bc kp kc) ∧ ∃ k : Nat, i = k ∧ k ≤ x.kids.length ∧ m = x.kids.length - k ∧ ∀ j n y, j < k → x.kids[j]? = some (n, y) → ∀ d', d = d' + 1 → RightV d' y,
      ⟨x.kids.length, hk6, hv6, 0, rfl, by omega, rfl, fun j n y hj => by omega⟩, ?_⟩
    rintro m i w7 ⟨hk7, hv7, k, rfl, hkl, rfl, hdone⟩
    refine ⟨kp, x.kids.length, kc, hv7.lies.at 7 rfl rfl, fun h => ?_, fun h => ?_⟩
    · simp only [decide_eq_true_eq] at h
      have hlt : k < x.kids.length := by omega
      have hget := List.getElem?_eq_getElem hlt
      rcases hny : x.kids[k]'hlt with ⟨n, y⟩
      rw [hny] at hget
      obtain ⟨d', hd', htn, hfy⟩ := hf.kid hget
      subst hd'
      obtain ⟨ka, bp', bc', kp', kc', hka, hrow, hhy⟩ := (hh.keeps hk7).kid hget
      have hkey : (k : Int).toNat = k := rfl
      refine ⟨kp, x.kids.length, kc, hv7.lies.at 7 rfl rfl, ⟨by omega, by omega⟩, ka, hka, _, _, _, _, _, _, _, _, _, _, _, _, _, hrow, fun w8 hw8 => ?_⟩
      obtain ⟨w9, hst9, hk9, hs9, hv9⟩ := store_new (t := 46) (cs := Value.string (mkS n) :: valCells y bp' bc' kp' kc') hw8 n46 rfl rfl rfl
      have hk9' := hk7.trans hk9
      have hv9x := hv7.keeps hk9
      refine ⟨w9, hst9, rowFacts w7.heap.size 0 (Value.string (mkS n) :: valCells y bp' bc' kp' kc') ++ rowFacts w.heap.size 0 (valCells x bp bc kp kc), ?_⟩
      have hkept : Kept w9 (rowFacts w7.heap.size 0 (Value.string (mkS n) :: valCells y bp' bc' kp' kc') ++ rowFacts w.heap.size 0 (valCells x bp bc kp kc)) := kept_append hv9.lies.kept hv9x.lies.kept
      have mem1 : ∀ (j : Nat) (v : Value), (Value.string (mkS n) :: valCells y bp' bc' kp' kc')[j]? = some v → ((⟨w7.heap.size, j, none⟩ : Addr), v) ∈ (rowFacts w7.heap.size 0 (Value.string (mkS n) :: valCells y bp' bc' kp' kc') ++ rowFacts w.heap.size 0 (valCells x bp bc kp kc)) := fun j v hj =>
        List.mem_append_left _ (by have := mem_rowFacts (b := w7.heap.size) (o := 0) hj; rwa [Nat.zero_add] at this)
      have mem2 : ((⟨w.heap.size, 0, none⟩ : Addr), Value.int .i64 x.kind) ∈ (rowFacts w7.heap.size 0 (Value.string (mkS n) :: valCells y bp' bc' kp' kc') ++ rowFacts w.heap.size 0 (valCells x bp bc kp kc)) :=
        List.mem_append_right _ (mem_rowFacts (o := 0) (i := 0) rfl)
      refine ⟨hkept, n, mem1 0 _ rfl, ?_⟩
      obtain ⟨bpl, hpl⟩ := ret115 n w9.drew (by have := textF_len htn; omega)
      refine hpl.go fun w10 hk10 => ⟨_, rfl, kept_keeps hkept (Keeps.trans (Keeps.refl w9).drew hk10), ?_⟩
      have hk10' : Keeps w9 w10 := Keeps.trans (Keeps.refl w9).drew hk10
      have hkw10 := hk9'.trans hk10'
      have hkept10 := kept_keeps hkept hk10'
      -- the kid itself
      have kid : ∀ w11, Keeps w9 w11 → (Calls prog 60 ⟨[.agg ⟨valCells y bp' bc' kp' kc'⟩, .int .i64 (deep - 1)]⟩ w11 fun e w12 => ∃ x135 : Bool, e = .returned (.bool x135) ∧ 
                                ((!x135) = true → ∃ b, Value.bool false = .bool b ∧ (b = true → RightV (d' + 1) x) ∧ Keeps w w12) ∧ ((!x135) = false →
                                ∃ x108 : Int, IntKind.i64.wrap ((k : Int) + 1) = x108 ∧ 
                                  ∃ m_1, m_1 < x.kids.length - k ∧ (Keeps w w12 ∧ Var w12 w.heap.size 26 (valCells x bp bc kp kc) ∧ ∃ k' : Nat, x108 = k' ∧ k' ≤ x.kids.length ∧ m_1 = x.kids.length - k' ∧ ∀ j n y, j < k' → x.kids[j]? = some (n, y) → ∀ d'', d' + 1 = d'' + 1 → RightV d'' y))) := by
        intro w11 hk11
        refine (ih d' (by omega) y bp' kp' bc' kc' (deep - 1) w11 ((hhy.keeps hk9).keeps hk11) hfy (by omega) (by omega)).go fun b w12 hb hk12 => ⟨b, rfl, fun _ => no _ ((hk9'.trans hk11).trans hk12), fun hb' => ⟨_, i64w (by omega) (by omega), x.kids.length - (k + 1), by omega, (hk9'.trans hk11).trans hk12, (hv9x.keeps hk11).keeps hk12, k + 1, by omega, by omega, rfl, ?_⟩⟩
        intro j n' y' hj hjy d'' hd''
        have hdd : d' = d'' := by omega
        subst hdd
        by_cases hjk : j < k
        · exact hdone j n' y' hjk hjy d' rfl
        · have : j = k := by omega
          subst this
          rw [hget] at hjy
          cases hjy
          exact hb (by simpa using hb')
      refine ⟨fun _ => ⟨hkept10, no _ hkw10⟩, fun _ => ⟨x.kind, mem2, fun h4 => ?_, fun h4 => ⟨hkept10, ?_⟩⟩⟩
      · refine ⟨n, mem1 0 _ rfl, ?_⟩
        obtain ⟨t, _, hdig⟩ := ret116 (k + 1) k (by omega) (by omega) (by omega) (by omega)
        refine (hdig w10).go fun w11 hk11 => ⟨_, rfl, kept_keeps hkept10 hk11, fun _ => no _ (hkw10.trans hk11), fun _ => ?_⟩
        exact ⟨_, _, _, _, _, _, _, _, _, _, _, _, ⟨n26, fun i v hi => by rw [add_at]; exact mem1 (1 + i) v (by rw [Nat.add_comm]; exact hi)⟩, _, i64w (n := deep - 1) (by omega) (by omega), kid w11 (hk10'.trans hk11)⟩
      · exact ⟨_, _, _, _, _, _, _, _, _, _, _, _, ⟨n26, fun i v hi => by rw [add_at]; exact mem1 (1 + i) v (by rw [Nat.add_comm]; exact hi)⟩, _, i64w (n := deep - 1) (by omega) (by omega), kid w10 hk10'⟩
    · simp only [decide_eq_false_iff_not] at h
      refine ⟨true, rfl, fun _ => ?_, hk7⟩
      cases d with
      | zero => exact hown
      | succ d' =>
        refine ⟨hown, fun _ n y hm => ?_⟩
        obtain ⟨j, hj⟩ := List.mem_iff_getElem?.1 hm
        have hjl := (List.getElem?_eq_some_iff.1 hj).1
        exact hdone j n y (by omega) hj d' rfl
  refine ⟨x.kind, hv5.lies.at 0 rfl rfl, fun h5 => ?_, fun h5 => ?_⟩
  · simp only [decide_eq_true_eq] at h5
    refine ⟨x.num, hv5.lies.at 3 rfl rfl, fun _ => ⟨x.num, hv5.lies.at 3 rfl rfl, _, rfl, fun _ => right0 ⟨hkn, by omega, by omega, by omega⟩ (by omega), hk5'⟩, fun _ => no _ hk5'⟩
  · simp only [decide_eq_false_iff_not] at h5
    intro K1 hK1
    have k1 : ∀ b, (b = true ↔ x.kind = 7 ∨ x.kind = 12) → K1 b w5 := by
      intro b hb
      refine hK1 b w5 ⟨fun h => ?_, fun h => ⟨fun h8 => ?_, fun h8 => ⟨fun h16 => ?_, fun h16 => ⟨fun h11 => ?_, fun h11 => ?_⟩⟩⟩⟩
      · refine ⟨bp, x.b.length, bc, hv5.lies.at 6 rfl rfl, _, rfl, fun h12 => ?_, hk5'⟩
        simp only [decide_eq_true_eq] at h12
        have := hb.1 h
        exact right0 ⟨hkn, fun _ => by omega, by omega, by omega⟩ (by omega)
      · have h7 : ¬ (x.kind = 7 ∨ x.kind = 12) := fun e => by rw [hb.2 e] at h; cases h
        simp only [decide_eq_true_eq] at h8
        refine ⟨x.num, hv5.lies.at 3 rfl rfl, fun h0 => ⟨true, rfl, fun _ => ?_, hk5'⟩, fun h0 => ⟨x.num, hv5.lies.at 3 rfl rfl, _, rfl, fun h1 => ?_, hk5'⟩⟩
        · simp only [decide_eq_true_eq] at h0
          exact right0 ⟨hkn, fun e => (h7 e).elim, fun _ => .inl h0, by omega⟩ (by omega)
        · simp only [decide_eq_true_eq] at h1
          exact right0 ⟨hkn, fun e => (h7 e).elim, fun _ => .inr h1, by omega⟩ (by omega)
      · have h7 : ¬ (x.kind = 7 ∨ x.kind = 12) := fun e => by rw [hb.2 e] at h; cases h
        simp only [decide_eq_true_eq, decide_eq_false_iff_not] at h8 h16
        refine ⟨x.num, hv5.lies.at 3 rfl rfl, fun h0 => ⟨x.num, hv5.lies.at 3 rfl rfl, _, rfl, fun h1 => ?_, hk5'⟩, fun h0 => no _ hk5'⟩
        simp only [decide_eq_true_eq] at h0 h1
        exact right0 ⟨hkn, fun e => (h7 e).elim, by omega, fun _ => ⟨by omega, by omega⟩⟩ (by omega)
      · have h7 : ¬ (x.kind = 7 ∨ x.kind = 12) := fun e => by rw [hb.2 e] at h; cases h
        simp only [decide_eq_true_eq, decide_eq_false_iff_not] at h8 h16 h11
        obtain ⟨b1, hb1⟩ := ret115 x.text w5 (by have := textF_len hof.1; omega)
        refine ⟨x.text, hv5.lies.at 1 rfl rfl, ?_⟩
        refine hb1.go fun w15 hk15 => ⟨_, rfl, fun _ => ⟨x.more, (hv5.keeps hk15).lies.at 2 rfl rfl, ?_⟩, fun _ => no _ (hk5'.trans hk15)⟩
        obtain ⟨b2, hb2⟩ := ret115 x.more w15 (by have := textF_len hof.2.1; omega)
        exact hb2.go fun w16 hk16 => ⟨_, rfl, _, rfl, fun _ => right0 ⟨hkn, fun e => (h7 e).elim, by omega, by omega⟩ (by omega), (hk5'.trans hk15).trans hk16⟩
      · have h7 : ¬ (x.kind = 7 ∨ x.kind = 12) := fun e => by rw [hb.2 e] at h; cases h
        simp only [decide_eq_false_iff_not] at h8 h16 h11
        exact kx w5 hk5' hv5 ⟨hkn, fun e => (h7 e).elim, by omega, by omega⟩
    refine ⟨fun h => k1 _ ?_, fun h => k1 _ ?_⟩ <;> simp only [decide_eq_true_eq, decide_eq_false_iff_not] at * <;> omega
end Go.Proofs.Tryz
