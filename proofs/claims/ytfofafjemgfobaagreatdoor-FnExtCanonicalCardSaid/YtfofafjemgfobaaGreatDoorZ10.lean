/- The writer of extended JSON: its block, its bytes, its stack of modes; what the small steps leave. -/
import Derived.Test.YtfofafjemgfobaaGreatDoorZ4
import Derived.Test.YtfofafjemgfobaaGreatDoorZ8
import Derived.Test.YtfofafjemgfobaaGreatDoorZ9
import Derived.Laws.CopyRow
import Derived.Laws.MakeOwn
set_option linter.unusedVariables false
namespace Go.Proofs.Tryz
open Go.Vc Go.RowKit

/-- The writer's seven cells. -/
def wcells (wx : Addr) (bp : Option Addr) (bn bc sg sn sc fr : Nat) (can esc : Bool) : List Value :=
  [.iface 72 (.pointer (some wx)), .slice bp bn bc, .slice (some ⟨sg, 0, none⟩) sn sc, .int .i64 (fr : Int), .bool can, .bool esc, .bool true]
/-- The stack's cells hold these modes, the last one first. -/
def Stk (cs : List Value) (ms : List Int) : Prop := ∀ (j : Nat) (m : Int), ms.reverse[j]? = some m → cs[j]? = some (Value.int .i64 m)
structure WRp (B : Nat) (w : World) (a : Nat) (wx : Addr) (can esc : Bool) (buf : List UInt8) (ms : List Int) (fr : Nat) (bp : Option Addr) (bn bc sg sn sc : Nat) (cs : List Value) : Prop where
  row : Var w a 115 (wcells wx bp bn bc sg sn sc fr can esc)
  base : B ≤ a
  own : Own B w bp bn bc buf
  stk : Var w sg 112 cs
  sbase : B ≤ sg
  clen : cs.length = sc
  room : fr < sn
  cap : sn ≤ sc
  top : sc ≤ 5000
  ints : ∀ v ∈ cs, v.oneCell' = true
  mode : Stk cs ms
  inb : fr ≤ ms.length ∧ ms.length ≤ fr + 1
/-- The writer, with these bytes written and in these modes. -/
def WR (B : Nat) (w : World) (a : Nat) (wx : Addr) (can esc : Bool) (buf : List UInt8) (ms : List Int) : Prop :=
  ∃ fr bp bn bc sg sn sc cs, WRp B w a wx can esc buf ms fr bp bn bc sg sn sc cs ∧ fr + 1 = ms.length

/-- What the writer's steps leave as it was. -/
structure Fr (B : Nat) (w w' : World) : Prop where
  below : Below B w w'
  tags : ∀ (g t : Nat) (cs : List Value), t ≠ 5 → t ≠ 112 → t ≠ 115 → Var w g t cs → Var w' g t cs
theorem Fr.refl (B : Nat) (w : World) : Fr B w w := ⟨Below.refl _ _, fun _ _ _ _ _ _ h => h⟩
theorem Fr.trans {B : Nat} {a b c : World} (h : Fr B a b) (k : Fr B b c) : Fr B a c := ⟨Below.trans h.below k.below, fun g t cs h1 h2 h3 hv => k.tags g t cs h1 h2 h3 (h.tags g t cs h1 h2 h3 hv)⟩
theorem Gr.fr {B : Nat} {a b : World} (h : Gr B a b) : Fr B a b := ⟨h.below, fun g t cs h1 _ _ hv => h.tagd g t cs h1 hv⟩
theorem Keeps.fr {B : Nat} {a b : World} (h : Keeps a b) (hB : B ≤ a.heap.size) : Fr B a b := (Gr.of h hB).fr
theorem Fr.size {B : Nat} {a b : World} (h : Fr B a b) : a.heap.size ≤ b.heap.size := Below.size h.below
theorem var_ne {w : World} {g g' t t' : Nat} {cs cs' : List Value} (h : Var w g t cs) (k : Var w g' t' cs') (ht : t ≠ t') : g ≠ g' := by
  rintro rfl
  unfold Var at h k
  rw [h] at k
  simp only [Option.some.injEq, Obj.cells.injEq] at k
  exact ht k.2.1
theorem var_setCell {w : World} {g t : Nat} {cs : List Value} (h : Var w g t cs) (x : Addr) (v : Value) (hx : g ≠ x.block) : Var (w.setCell x v) g t cs := h.keep (Below.heap_setCell w x v g hx)
theorem own_setCell {B : Nat} {w : World} {p : Option Addr} {n c g t : Nat} {l : List UInt8} {cs : List Value} (h : Own B w p n c l) (hv : Var w g t cs) (ht : t ≠ 5) (j : Nat) (v : Value) : Own B (w.setCell ⟨g, j, none⟩ v) p n c l :=
  h.keep fun a ha => Below.heap_setCell w _ v a.block (fun e => h.other hv ht (by subst ha; simp only [Value.ownBlock]; rw [e]))
/-- A cell of the writer's own is written. -/
theorem fr_setCell {B : Nat} {w : World} {g t : Nat} {cs : List Value} (hv : Var w g t cs) (hB : B ≤ g) (ht : t = 112 ∨ t = 115) (j : Nat) (v : Value) : Fr B w (w.setCell ⟨g, j, none⟩ v) :=
  ⟨(Below.refl B w).setCell (p := ⟨g, j, none⟩) hB v, fun g' t' cs' h1 h2 h3 hv' => var_setCell hv' _ _ (by have := var_ne hv' hv (by omega); exact this)⟩

section
variable {B : Nat} {w : World} {a : Nat} {wx : Addr} {can esc : Bool} {buf : List UInt8} {ms : List Int} {fr : Nat} {bp : Option Addr} {bn bc sg sn sc : Nat} {cs : List Value}
theorem WRp.keeps {w' : World} (h : WRp B w a wx can esc buf ms fr bp bn bc sg sn sc cs) (k : Keeps w w') : WRp B w' a wx can esc buf ms fr bp bn bc sg sn sc cs :=
  ⟨h.row.keeps k, h.base, h.own.keeps k, h.stk.keeps k, h.sbase, h.clen, h.room, h.cap, h.top, h.ints, h.mode, h.inb⟩
theorem WRp.size (h : WRp B w a wx can esc buf ms fr bp bn bc sg sn sc cs) : B ≤ w.heap.size := Nat.le_trans h.base (Nat.le_of_lt h.row.lt)
theorem WRp.c1 (h : WRp B w a wx can esc buf ms fr bp bn bc sg sn sc cs) : w.cell? ((⟨a, 0, none⟩ : Addr).add 1) = some (.slice bp bn bc) := by rw [add_at]; exact h.row.lies.at 1 rfl rfl
theorem WRp.c2 (h : WRp B w a wx can esc buf ms fr bp bn bc sg sn sc cs) : w.cell? ((⟨a, 0, none⟩ : Addr).add 2) = some (.slice (some ⟨sg, 0, none⟩) sn sc) := by rw [add_at]; exact h.row.lies.at 2 rfl rfl
theorem WRp.c3 (h : WRp B w a wx can esc buf ms fr bp bn bc sg sn sc cs) : w.cell? ((⟨a, 0, none⟩ : Addr).add 3) = some (.int .i64 (fr : Int)) := by rw [add_at]; exact h.row.lies.at 3 rfl rfl
theorem WRp.c4 (h : WRp B w a wx can esc buf ms fr bp bn bc sg sn sc cs) : w.cell? ((⟨a, 0, none⟩ : Addr).add 4) = some (.bool can) := by rw [add_at]; exact h.row.lies.at 4 rfl rfl
theorem WRp.c5 (h : WRp B w a wx can esc buf ms fr bp bn bc sg sn sc cs) : w.cell? ((⟨a, 0, none⟩ : Addr).add 5) = some (.bool esc) := by rw [add_at]; exact h.row.lies.at 5 rfl rfl
theorem WRp.c6 (h : WRp B w a wx can esc buf ms fr bp bn bc sg sn sc cs) : w.cell? ((⟨a, 0, none⟩ : Addr).add 6) = some (.bool true) := by rw [add_at]; exact h.row.lies.at 6 rfl rfl
theorem WRp.c0 (h : WRp B w a wx can esc buf ms fr bp bn bc sg sn sc cs) : w.cell? (⟨a, 0, none⟩ : Addr) = some (.iface 72 (.pointer (some wx))) := h.row.lies.at 0 rfl rfl
/-- The mode on top. -/
theorem WRp.top_mode {t : Int} {r : List Int} (h : WRp B w a wx can esc buf (t :: r) fr bp bn bc sg sn sc cs) (hf : fr + 1 = (t :: r).length) :
    w.cell? ((⟨sg, 0, none⟩ : Addr).add (((fr : Nat) : Int).toNat * 1)) = some (.int .i64 t) := by
  have hr : fr = r.length := by simpa using hf
  subst hr
  rw [add_at, Nat.zero_add, Nat.mul_one, Int.toNat_natCast]
  refine h.stk.lies.at r.length (h.mode r.length t ?_) (Nat.zero_add _).symm
  rw [List.reverse_cons, List.getElem?_append_right (by simp)]
  simp
theorem WRp.can_store (h : WRp B w a wx can esc buf ms fr bp bn bc sg sn sc cs) (j : Nat) (hj : j < 7) {v : Value} (hv : v.oneCell' = true) : CanStore w ((⟨a, 0, none⟩ : Addr).add j) v := by
  rw [add_at]; exact h.row.can (by simpa [wcells] using (show 0 + j < 7 by omega)) hv
/-- The bytes are turned. -/
theorem WRp.set_buf {w1 : World} {bp' : Option Addr} {bn' bc' : Nat} {buf' : List UInt8} (h : WRp B w a wx can esc buf ms fr bp bn bc sg sn sc cs) (hg : Gr B w w1) (ho : Own B w1 bp' bn' bc' buf') :
    CanStore w1 ((⟨a, 0, none⟩ : Addr).add 1) (.slice bp' bn' bc') ∧ ∀ w2, w2 = w1.setCell ((⟨a, 0, none⟩ : Addr).add 1) (.slice bp' bn' bc') →
      WRp B w2 a wx can esc buf' ms fr bp' bn' bc' sg sn sc cs ∧ Fr B w w2 := by
  have hv1 : Var w1 a 115 (wcells wx bp bn bc sg sn sc fr can esc) := hg.tagd a 115 _ (by decide) h.row
  have hs1 : Var w1 sg 112 cs := hg.tagd sg 112 _ (by decide) h.stk
  rw [add_at]
  refine ⟨hv1.can (by simp [wcells]) rfl, fun w2 hw2 => ?_⟩
  subst hw2
  have hne := var_ne hs1 hv1 (by decide)
  exact ⟨⟨hv1.set 1 _, h.base, own_setCell ho hv1 (by decide) 1 _, var_setCell hs1 _ _ hne, h.sbase, h.clen, h.room, h.cap, h.top, h.ints, h.mode, h.inb⟩, hg.fr.trans (fr_setCell hv1 h.base (.inr rfl) 1 _)⟩
/-- The frame's number is turned. -/
theorem WRp.set_fr {ms' : List Int} (h : WRp B w a wx can esc buf ms fr bp bn bc sg sn sc cs) (fr' : Nat) (hr : fr' < sn) (hm : Stk cs ms') (hi : fr' ≤ ms'.length ∧ ms'.length ≤ fr' + 1) :
    WRp B (w.setCell ((⟨a, 0, none⟩ : Addr).add 3) (.int .i64 (fr' : Int))) a wx can esc buf ms' fr' bp bn bc sg sn sc cs ∧ Fr B w (w.setCell ((⟨a, 0, none⟩ : Addr).add 3) (.int .i64 (fr' : Int))) := by
  rw [add_at]
  have hne := var_ne h.stk h.row (by decide)
  exact ⟨⟨h.row.set 3 _, h.base, own_setCell h.own h.row (by decide) 3 _, var_setCell h.stk _ _ hne, h.sbase, h.clen, hr, h.cap, h.top, h.ints, hm, hi⟩, fr_setCell h.row h.base (.inr rfl) 3 _⟩
/-- The stack is turned. -/
theorem WRp.set_stk {sg' sn' sc' : Nat} {cs' : List Value} (h : WRp B w a wx can esc buf ms fr bp bn bc sg sn sc cs) (hs : Var w sg' 112 cs') (hb : B ≤ sg') (hl : cs'.length = sc') (hr : fr < sn') (hc : sn' ≤ sc') (ht : sc' ≤ 5000)
    (hi : ∀ v ∈ cs', v.oneCell' = true) (hm : Stk cs' ms) :
    WRp B (w.setCell ((⟨a, 0, none⟩ : Addr).add 2) (.slice (some ⟨sg', 0, none⟩) sn' sc')) a wx can esc buf ms fr bp bn bc sg' sn' sc' cs' ∧ Fr B w (w.setCell ((⟨a, 0, none⟩ : Addr).add 2) (.slice (some ⟨sg', 0, none⟩) sn' sc')) := by
  rw [add_at]
  have hne := var_ne hs h.row (by decide)
  exact ⟨⟨h.row.set 2 _, h.base, own_setCell h.own h.row (by decide) 2 _, var_setCell hs _ _ hne, hb, hl, hr, hc, ht, hi, hm, h.inb⟩, fr_setCell h.row h.base (.inr rfl) 2 _⟩
end
theorem Stk.tail {cs : List Value} {t : Int} {r : List Int} (h : Stk cs (t :: r)) : Stk cs r := by
  intro j m hj
  refine h j m ?_
  rw [List.reverse_cons, List.getElem?_append_left (List.getElem?_eq_some_iff.1 hj).1]
  exact hj
theorem Stk.push {cs : List Value} {r : List Int} (h : Stk cs r) (m : Int) (hl : r.length < cs.length) : Stk (cs.set r.length (.int .i64 m)) (m :: r) := by
  intro j x hj
  rw [List.reverse_cons] at hj
  rcases Nat.lt_or_ge j r.length with hlt | hge
  · rw [List.getElem?_append_left (by simpa using hlt)] at hj
    rw [List.getElem?_set_ne (by omega)]
    exact h j x hj
  · rw [List.getElem?_append_right (by simpa using hge)] at hj
    have : j = r.length := by
      rcases Nat.lt_or_ge r.length j with h' | h'
      · have hlen := (List.getElem?_eq_some_iff.1 hj).1
        simp at hlen; omega
      · omega
    subst this
    have hm : m = x := by simpa using hj
    subst hm
    rw [List.getElem?_set_self hl]

theorem i112 : ∃ i, prog.info? 112 = some i ∧ i.size = 1 ∧ i.bytes = 8 ∧ i.zero = some (.agg #[.int .i64 0]) := ⟨Go.Proofs.Tryz.t112, by kernel_rfl, by kernel_rfl, by kernel_rfl, by kernel_rfl⟩
theorem u113 : prog.underlying 113 = some (.slice 112) := by kernel_rfl

theorem made_int (n : Nat) : ∀ v ∈ (madeCells #[.int .i64 0] n).toList, v = Value.int .i64 0 := by
  intro v hv
  unfold madeCells at hv
  simp only [Array.toList_map, List.mem_map] at hv
  obtain ⟨i, _, rfl⟩ := hv
  have : i % (#[Value.int .i64 0] : Array Value).size = 0 := by
    have : (#[Value.int .i64 0] : Array Value).size = 1 := rfl
    rw [this]; omega
  rw [this]; rfl

/-- A frame more: it is not filled yet. -/
theorem ret124 {B : Nat} {w : World} {a : Nat} {wx : Addr} {can esc : Bool} {buf : List UInt8} {ms : List Int} (h : WR B w a wx can esc buf ms) (hd : ms.length ≤ 1000) :
    Calls prog 124 ⟨[.pointer (some ⟨a, 0, none⟩)]⟩ w fun e w' => e = .returned (.tuple ⟨[]⟩) ∧ Fr B w w' ∧
      ∃ bp bn bc sg sn sc cs, WRp B w' a wx can esc buf ms ms.length bp bn bc sg sn sc cs := by
  have := c124 ⟨a, 0, none⟩ w (fun v w' => v = .tuple ⟨[]⟩ ∧ Fr B w w' ∧ ∃ bp bn bc sg sn sc cs, WRp B w' a wx can esc buf ms ms.length bp bn bc sg sn sc cs) ?_
  · exact this.mono fun e w' ⟨v, he, hv, h⟩ => ⟨by rw [he, hv], h⟩
  obtain ⟨fr, bp, bn, bc, sg, sn, sc, cs, hp, hfr⟩ := h
  unfold VC124
  have hB := hp.size
  have hp0 : WRp B w.drew a wx can esc buf ms fr bp bn bc sg sn sc cs := hp.keeps ((Keeps.refl w).drew)
  have hf0 : Fr B w w.drew := ((Keeps.refl w).drew).fr hB
  have hroom := hp.room
  have hcap := hp.cap
  have htop := hp.top
  intro Kx hK
  have keyx : ∀ w1 sg1 sn1 sc1 cs1, Fr B w w1 → WRp B w1 a wx can esc buf ms fr bp bn bc sg1 sn1 sc1 cs1 → fr + 1 < sn1 → Kx w1 := by
    intro w1 sg1 sn1 sc1 cs1 hf1 hp1 hlt
    have hcap1 := hp1.cap
    have htop1 := hp1.top
    refine hK w1 ⟨_, hp1.c3, ((fr + 1 : Nat) : Int), i64w (by omega) (by omega), hp1.can_store 3 (by decide) rfl, fun w2 hw2 => ?_⟩
    obtain ⟨hp2, hf2⟩ := hp1.set_fr (ms' := ms) (fr + 1) hlt hp1.mode (by omega)
    rw [hw2]
    rw [hfr] at hp2 hf2 ⊢
    exact ⟨rfl, hf1.trans hf2, _, _, _, _, _, _, _, hp2⟩
  refine ⟨_, hp0.c3, ((fr + 1 : Nat) : Int), i64w (by omega) (by omega), _, _, _, hp0.c2, fun h1 => ?_, fun h1 => keyx w.drew _ _ _ _ hf0 hp0 (by have := of_decide_eq_false h1; omega)⟩
  have h1 := of_decide_eq_true h1
  have hsn : sn = fr + 1 := by omega
  refine ⟨_, _, _, hp0.c2, ?_⟩
  intro K1 hK1
  have key1 : ∀ w3 sg1 sn1 sc1 cs1, Fr B w w3 → WRp B w3 a wx can esc buf ms fr bp bn bc sg1 sn1 sc1 cs1 → fr + 2 ≤ sc1 → K1 w3 := by
    intro w3 sg1 sn1 sc1 cs1 hf3 hp3 hle
    have htop3 := hp3.top
    refine hK1 w3 ⟨_, _, _, hp3.c2, ((fr + 2 : Nat) : Int), by rw [hsn, i64w (by omega) (by omega)]; omega, ⟨by omega, by omega⟩, hp3.can_store 2 (by decide) rfl, fun w4 hw4 => ?_⟩
    obtain ⟨hp4, hf4⟩ := hp3.set_stk (sn' := fr + 2) hp3.stk hp3.sbase hp3.clen (by omega) hle hp3.top hp3.ints hp3.mode
    rw [hw4]
    exact keyx _ _ _ _ _ (hf3.trans hf4) hp4 (by omega)
  refine ⟨((fr + 2 : Nat) : Int), by rw [hsn, i64w (by omega) (by omega)]; omega, _, _, _, hp0.c2, fun h2 => ?_, fun h2 => key1 w.drew _ _ _ _ hf0 hp0 (by have := of_decide_eq_false h2; omega)⟩
  have h2 := of_decide_eq_true h2
  refine ⟨_, _, _, hp0.c2, 2 * (sc : Int), i64w (by omega) (by omega), ((2 * sc + 1 : Nat) : Int), by rw [i64w (by omega) (by omega)]; omega, ?_⟩
  obtain ⟨i, hi, hs, hby, hz⟩ := i112
  have hmk := run_makeSlice (P := prog) w.drew 113 112 i (.agg #[.int .i64 0]) u113 hi hz .i64 .i64 ((2 * sc + 1 : Nat) : Int) ((2 * sc + 1 : Nat) : Int) (by omega) (by omega) (by rw [hs]; omega) (by rw [hby]; omega) (by omega)
  have hzc : (Value.agg #[.int .i64 0]).cells = #[.int .i64 0] := rfl
  rw [Int.toNat_natCast, hs, hzc, Nat.mul_one] at hmk
  refine ⟨_, _, _, _, hmk, ?_⟩
  have hk5 : Keeps w.drew (w.drew.alloc (.cells (madeCells #[.int .i64 0] (2 * sc + 1)) 112)) := (Keeps.refl _).alloc _
  have hv5 : Var (w.drew.alloc (.cells (madeCells #[.int .i64 0] (2 * sc + 1)) 112)) w.drew.heap.size 112 (madeCells #[.int .i64 0] (2 * sc + 1)).toList := var_alloc w.drew (madeCells #[.int .i64 0] (2 * sc + 1)).toList 112
  have hcl : (madeCells #[.int .i64 0] (2 * sc + 1)).toList.length = 2 * sc + 1 := by rw [Array.length_toList, size_madeCells]
  have hci := made_int (2 * sc + 1)
  generalize (madeCells #[.int .i64 0] (2 * sc + 1)).toList = zs at *
  generalize hw5 : w.drew.alloc (.cells (madeCells #[.int .i64 0] (2 * sc + 1)) 112) = w5 at *
  have hp5 := hp0.keeps hk5
  have hclen := hp.clen
  have hcopy := run_copy_row prog w5 113 113 3 112 w.drew.heap.size 0 (2 * sc + 1) (2 * sc + 1) ⟨sg, 0, none⟩ sn sc ⟨zs⟩ 112 (cs.take sn) u113 (by rw [hi]; simp [hs]) hv5 (by rw [List.length_take]; show min sn cs.length = min sn (2 * sc + 1); omega)
    (fun j v hj => by
      rw [add_at]
      refine hp5.stk.lies.at j ?_ rfl
      rw [List.getElem?_take] at hj
      split at hj
      · exact hj
      · cases hj) (by rw [List.length_take]; show 0 + min sn cs.length ≤ zs.length; omega) (fun v hv => hp.ints v (List.mem_of_mem_take hv))
  have hlt : (cs.take sn).length = sn := by rw [List.length_take]; omega
  have hnew : (List.take 0 (⟨zs⟩ : Array Value).toList ++ cs.take sn ++ List.drop (0 + (cs.take sn).length) (⟨zs⟩ : Array Value).toList) = cs.take sn ++ zs.drop sn := by simp [hlt]
  rw [hnew] at hcopy
  refine ⟨_, _, _, hp5.c2, ((cs.take sn).length : Int), w5.setRow w.drew.heap.size ⟨cs.take sn ++ zs.drop sn⟩, ?_, ?_⟩
  · unfold BuiltinOk
    simp only [builtin, Sem.run_bind, hcopy, Result.andThen_ok, Sem.run_pure]
    rfl
  have hv6 : Var (w5.setRow w.drew.heap.size ⟨cs.take sn ++ zs.drop sn⟩) w.drew.heap.size 112 (cs.take sn ++ zs.drop sn) := setRow_heap w5 _ ⟨zs⟩ _ 112 (0, 0) hv5
  have hk6 : Keeps w.drew (w5.setRow w.drew.heap.size ⟨cs.take sn ++ zs.drop sn⟩) := by
    refine Below.grown (row := some w.drew.heap.size) hk5 ⟨rfl, rfl, rfl, by simp [World.setRow], fun k _ hk => setRow_other w5 _ k _ (fun e => hk (by rw [e]))⟩ hk5.size (fun k hk => by cases hk; exact Nat.le_refl _)
  have hp6 := hp0.keeps hk6
  refine ⟨hp6.can_store 2 (by decide) rfl, fun w7 hw7 => ?_⟩
  obtain ⟨hp7, hf7⟩ := hp6.set_stk (sg' := w.drew.heap.size) (sn' := 2 * sc + 1) (sc' := 2 * sc + 1) hv6 hB (by rw [List.length_append, hlt, List.length_drop]; omega) (by omega) (Nat.le_refl _) (by omega)
    (fun v hv => by
      rcases List.mem_append.1 hv with hv | hv
      · exact hp.ints v (List.mem_of_mem_take hv)
      · rw [hci v (List.mem_of_mem_drop hv)]; rfl)
    (fun j m hj => by
      have hjl := (List.getElem?_eq_some_iff.1 hj).1
      simp only [List.length_reverse] at hjl
      rw [List.getElem?_append_left (by rw [hlt]; omega), List.getElem?_take, if_pos (by omega)]
      exact hp.mode j m hj)
  rw [hw7]
  exact key1 _ _ _ _ _ ((hf0.trans (hk6.fr hB)).trans hf7) hp7 (by omega)

/-- A mode is laid on the stack. -/
theorem ret69 {B : Nat} {w : World} {a : Nat} {wx : Addr} {can esc : Bool} {buf : List UInt8} {ms : List Int} (h : WR B w a wx can esc buf ms) (hd : ms.length ≤ 1000) (m : Int) :
    Calls prog 69 ⟨[.pointer (some ⟨a, 0, none⟩), .int .i64 m]⟩ w fun e w' => e = .returned (.tuple ⟨[]⟩) ∧ Fr B w w' ∧ WR B w' a wx can esc buf (m :: ms) := by
  have := c69 ⟨a, 0, none⟩ m w (fun v w' => v = .tuple ⟨[]⟩ ∧ Fr B w w' ∧ WR B w' a wx can esc buf (m :: ms)) ?_
  · exact this.mono fun e w' ⟨v, he, hv, h⟩ => ⟨by rw [he, hv], h⟩
  unfold VC69
  refine (ret124 h hd).mono ?_
  rintro e w1 ⟨rfl, hf1, bp, bn, bc, sg, sn, sc, cs, hp⟩
  refine ⟨rfl, [((⟨a, 0, none⟩ : Addr).add 2, .slice (some ⟨sg, 0, none⟩) sn sc), ((⟨a, 0, none⟩ : Addr).add 3, .int .i64 (ms.length : Int))], kept_of (fun p hp' => ?_), _, _, _, List.mem_cons_self, (ms.length : Int), List.mem_cons_of_mem _ List.mem_cons_self, ⟨by omega, by have := hp.room; omega⟩, ⟨sg, 0, none⟩, rfl, ?_⟩
  · simp only [List.mem_cons, List.mem_nil_iff, or_false] at hp'
    rcases hp' with rfl | rfl
    · exact hp.c2
    · exact hp.c3
  have hroom := hp.room
  have hcap := hp.cap
  have hclen := hp.clen
  have hp1 : WRp B w1.drew a wx can esc buf ms ms.length bp bn bc sg sn sc cs := hp.keeps ((Keeps.refl w1).drew)
  rw [add_at, Nat.zero_add, Nat.mul_one, Int.toNat_natCast]
  refine ⟨hp1.stk.can (by omega) rfl, fun w2 hw2 => ⟨rfl, ?_, ?_⟩⟩
  · rw [hw2]
    exact (hf1.trans (((Keeps.refl w1).drew).fr hp.size)).trans (fr_setCell hp1.stk hp.sbase (.inl rfl) _ _)
  · rw [hw2]
    have hne := var_ne hp1.row hp1.stk (by decide)
    refine ⟨ms.length, bp, bn, bc, sg, sn, sc, cs.set ms.length (.int .i64 m), ⟨var_setCell hp1.row _ _ hne, hp.base, own_setCell hp1.own hp1.stk (by decide) _ _, hp1.stk.set _ _, hp.sbase, by rw [List.length_set]; exact hclen, hp.room, hp.cap, hp.top, ?_, hp.mode.push m (by omega), by simp⟩, by simp⟩
    intro v hv
    rcases List.mem_or_eq_of_mem_set hv with hv | rfl
    · exact hp.ints v hv
    · rfl

/-- The value's mode is taken off. -/
theorem ret132a {B : Nat} {w : World} {a : Nat} {wx : Addr} {can esc : Bool} {buf : List UInt8} {t : Int} {ms : List Int} (h : WR B w a wx can esc buf (t :: ms)) (ht : t = 5 ∨ t = 4) (hm : 1 ≤ ms.length) (hd : ms.length ≤ 1000) :
    Calls prog 132 ⟨[.pointer (some ⟨a, 0, none⟩)]⟩ w fun e w' => e = .returned (.tuple ⟨[]⟩) ∧ Fr B w w' ∧ WR B w' a wx can esc buf ms := by
  have := c132 ⟨a, 0, none⟩ w (fun v w' => v = .tuple ⟨[]⟩ ∧ Fr B w w' ∧ WR B w' a wx can esc buf ms) ?_
  · exact this.mono fun e w' ⟨v, he, hv, h⟩ => ⟨by rw [he, hv], h⟩
  obtain ⟨fr, bp, bn, bc, sg, sn, sc, cs, hp, hfr⟩ := h
  have hp0 : WRp B w.drew a wx can esc buf (t :: ms) fr bp bn bc sg sn sc cs := hp.keeps ((Keeps.refl w).drew)
  have hroom := hp.room
  simp only [List.length_cons] at hfr
  unfold VC132
  refine ⟨_, _, _, hp0.c2, _, hp0.c3, ⟨by omega, by omega⟩, _, rfl, t, hp0.top_mode (by simp; omega), ?_⟩
  intro Kx hK
  have key : Kx true w.drew := by
    refine hK true w.drew ⟨fun _ => ⟨_, hp0.c3, ((fr - 1 : Nat) : Int), by rw [i64w (by omega) (by omega)]; omega, hp0.can_store 3 (by decide) rfl, fun w2 hw2 => ?_⟩, fun h => by cases h⟩
    obtain ⟨hp2, hf2⟩ := hp0.set_fr (ms' := ms) (fr - 1) (by omega) hp0.mode.tail (by omega)
    rw [hw2]
    exact ⟨rfl, (((Keeps.refl w).drew).fr hp.size).trans hf2, _, _, _, _, _, _, _, _, hp2, by omega⟩
  rcases ht with rfl | rfl
  · exact ⟨fun _ => key, fun h => absurd h (by decide)⟩
  · exact ⟨fun h => absurd h (by decide), fun _ => key⟩
/-- A document's or an array's mode is taken off, with the value's under it. -/
theorem ret132b {B : Nat} {w : World} {a : Nat} {wx : Addr} {can esc : Bool} {buf : List UInt8} {t u : Int} {ms : List Int} (h : WR B w a wx can esc buf (t :: u :: ms)) (ht : t = 2 ∨ t = 3 ∨ t = 6) (hm : 1 ≤ ms.length) (hd : ms.length ≤ 1000) :
    Calls prog 132 ⟨[.pointer (some ⟨a, 0, none⟩)]⟩ w fun e w' => e = .returned (.tuple ⟨[]⟩) ∧ Fr B w w' ∧ WR B w' a wx can esc buf ms := by
  have := c132 ⟨a, 0, none⟩ w (fun v w' => v = .tuple ⟨[]⟩ ∧ Fr B w w' ∧ WR B w' a wx can esc buf ms) ?_
  · exact this.mono fun e w' ⟨v, he, hv, h⟩ => ⟨by rw [he, hv], h⟩
  obtain ⟨fr, bp, bn, bc, sg, sn, sc, cs, hp, hfr⟩ := h
  have hp0 : WRp B w.drew a wx can esc buf (t :: u :: ms) fr bp bn bc sg sn sc cs := hp.keeps ((Keeps.refl w).drew)
  have hroom := hp.room
  simp only [List.length_cons] at hfr
  unfold VC132
  refine ⟨_, _, _, hp0.c2, _, hp0.c3, ⟨by omega, by omega⟩, _, rfl, t, hp0.top_mode (by simp; omega), ?_⟩
  intro Kx hK
  have fin : ∀ w2, w2 = w.drew.setCell ((⟨a, 0, none⟩ : Addr).add 3) (.int .i64 ((fr - 2 : Nat) : Int)) → (Value.tuple ⟨[]⟩ = .tuple ⟨[]⟩ ∧ Fr B w w2 ∧ WR B w2 a wx can esc buf ms) := by
    intro w2 hw2
    obtain ⟨hp2, hf2⟩ := hp0.set_fr (ms' := ms) (fr - 2) (by omega) hp0.mode.tail.tail (by omega)
    rw [hw2]
    exact ⟨rfl, (((Keeps.refl w).drew).fr hp.size).trans hf2, _, _, _, _, _, _, _, _, hp2, by omega⟩
  have key : Kx false w.drew := by
    refine hK false w.drew ⟨(fun h => by cases h), fun _ => ?_⟩
    intro K1 hK1
    have key1 : K1 true w.drew := hK1 true w.drew ⟨fun _ => ⟨_, hp0.c3, ((fr - 2 : Nat) : Int), by rw [i64w (by omega) (by omega)]; omega, hp0.can_store 3 (by decide) rfl, fin⟩, fun h => by cases h⟩
    rcases ht with rfl | rfl | rfl
    · exact ⟨fun _ => key1, fun h => absurd h (by decide)⟩
    · exact ⟨fun h => absurd h (by decide), fun _ => ⟨fun _ => key1, fun h => absurd h (by decide)⟩⟩
    · exact ⟨fun h => absurd h (by decide), fun _ => ⟨fun h => absurd h (by decide), fun _ => key1⟩⟩
  rcases ht with rfl | rfl | rfl <;> exact ⟨fun h => absurd h (by decide), fun _ => key⟩
/-- At the top nothing is taken off. -/
theorem ret132c {B : Nat} {w : World} {a : Nat} {wx : Addr} {can esc : Bool} {buf : List UInt8} {ms : List Int} (h : WR B w a wx can esc buf (1 :: ms)) :
    Calls prog 132 ⟨[.pointer (some ⟨a, 0, none⟩)]⟩ w fun e w' => e = .returned (.tuple ⟨[]⟩) ∧ Keeps w w' := by
  have := c132 ⟨a, 0, none⟩ w (fun v w' => v = .tuple ⟨[]⟩ ∧ Keeps w w') ?_
  · exact this.mono fun e w' ⟨v, he, hv, h⟩ => ⟨by rw [he, hv], h⟩
  obtain ⟨fr, bp, bn, bc, sg, sn, sc, cs, hp, hfr⟩ := h
  have hp0 : WRp B w.drew a wx can esc buf (1 :: ms) fr bp bn bc sg sn sc cs := hp.keeps ((Keeps.refl w).drew)
  have hroom := hp.room
  unfold VC132
  refine ⟨_, _, _, hp0.c2, _, hp0.c3, ⟨by omega, by omega⟩, _, rfl, 1, hp0.top_mode hfr, ?_⟩
  intro Kx hK
  refine ⟨fun h => absurd h (by decide), fun _ => hK _ w.drew ⟨fun h => absurd h (by decide), fun _ => ?_⟩⟩
  intro K1 hK1
  refine ⟨fun h => absurd h (by decide), fun _ => ⟨fun h => absurd h (by decide), fun _ => hK1 _ w.drew ⟨fun h => absurd h (by decide), fun _ => ⟨rfl, (Keeps.refl w).drew⟩⟩⟩⟩
/-- A value may stand here. -/
theorem ret68 {B : Nat} {w : World} {a : Nat} {wx : Addr} {can esc : Bool} {buf : List UInt8} {t : Int} {ms : List Int} (h : WR B w a wx can esc buf (t :: ms)) (ht : t = 5 ∨ t = 4) (d : Int) (name : List UInt8) (p : Option Addr) (n c : Nat) :
    Ret 68 [.pointer (some ⟨a, 0, none⟩), .int .i64 d, .string (mkS name), .slice p n c] w .nilIface := by
  obtain ⟨fr, bp, bn, bc, sg, sn, sc, cs, hp, hfr⟩ := h
  have hp0 : WRp B w.drew a wx can esc buf (t :: ms) fr bp bn bc sg sn sc cs := hp.keeps ((Keeps.refl w).drew)
  have hroom := hp.room
  refine Ret.of (c68 _ _ _ _ _ _ w _ ?_)
  unfold VC68
  refine ⟨_, _, _, hp0.c2, _, hp0.c3, ⟨by omega, by omega⟩, _, rfl, t, hp0.top_mode hfr, ?_⟩
  intro Kx hK
  have key : Kx true w.drew := hK true w.drew ⟨fun _ => ⟨rfl, (Keeps.refl w).drew⟩, (fun h => by cases h)⟩
  rcases ht with rfl | rfl
  · exact ⟨fun _ => key, fun h => absurd h (by decide)⟩
  · exact ⟨fun h => absurd h (by decide), fun _ => key⟩
end Go.Proofs.Tryz
