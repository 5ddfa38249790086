/- Parts of a proof, joined: VcOps, VcRegion. -/
import Derived.Test.YtfofafjemgfobaaGreatDoorX1
set_option linter.unusedVariables false
set_option linter.unusedSimpArgs false
namespace Go.Vc
section
variable {P : Program} {o : Oper} {oa : OA} {l : Env} {a : Act} {w : World} {Q : Exit → Act → World → Prop}
theorem argT_spec {c : Call} {d : TypeDesc} (hd : argT P c = some d) : ∃ t, c.argTypes[0]? = some t ∧ P.underlying t = some d := by
  unfold argT at hd
  split at hd
  · rename_i t ht; exact ⟨t, ht, hd⟩
  · cases hd
def Pure (P : Program) (o : Oper) (a : Act) (v : Value) : Prop := ∀ w, (execOp a.eval o).run P w = .ok (.value v) w
theorem pureV_sound {C : Value → Prop} (hf : Fits l a) (h : pureV P o oa l C) : ∃ v, Pure P o a v ∧ C v := by
  obtain ⟨dst, op, type, pos, after, guard⟩ := o
  cases op <;> simp only [pureV] at h
  case move x =>
    split at h
    · rename_i v hv; exact ⟨v, fun w => by simp [execOp, hf.ev hv], h⟩
    · exact h.elim
  case assign x =>
    split at h
    · rename_i v hv; exact ⟨v, fun w => by simp [execOp, hf.ev hv], h⟩
    · exact h.elim
  case pick c x y =>
    split at h
    · rename_i t ht
      have fin : ∀ (u : Value), ((if t then a.eval x else a.eval y) = u) → C u → ∃ v, Pure P ⟨dst, .pick c x y, type, pos, after, guard⟩ a v ∧ C v := fun u hu hc =>
        ⟨u, fun w => by simp [execOp, hf.ev ht, asBool, hu], hc⟩
      unfold purePick at h
      split at h
      · cases t
        · have h := h.2 rfl
          split at h
          · rename_i u hu; exact fin u (by simp [hf.ev hu]) h
          · exact h.elim
        · have h := h.1 rfl
          split at h
          · rename_i u hu; exact fin u (by simp [hf.ev hu]) h
          · exact h.elim
      · cases t
        · simp only at h
          split at h
          · rename_i u hu; exact fin u (by simp [hf.ev hu]) h
          · exact h.elim
        · simp only at h
          split at h
          · rename_i u hu; exact fin u (by simp [hf.ev hu]) h
          · exact h.elim
    · exact h.elim
  case nilCheck x =>
    split at h
    · rename_i p hp
      split at h
      · split at h
        · rename_i ad; exact ⟨_, fun w => by simp [execOp, hf.ev hp], h⟩
        · exact h.elim
      · obtain ⟨ad, rfl, hc⟩ := h
        exact ⟨_, fun w => by simp [execOp, hf.ev hp], hc⟩
    · rename_i hp; exact ⟨_, fun w => by simp [execOp, hf.ev hp], h⟩
    · rename_i hp; exact ⟨_, fun w => by simp [execOp, hf.ev hp], h⟩
    · exact h.elim
  case binOp op t x y yt =>
    split at h
    · rename_i u v hu hv
      obtain ⟨r, hr, hc⟩ := binS_sound h
      refine ⟨r, fun w => ?_, hc⟩
      simp only [execOp, hf.ev hu, hf.ev hv]
      rw [Sem.run_bind, hr]; rfl
    · exact h.elim
  case unOp op t x =>
    split at h
    · rename_i b hb; exact ⟨.bool (!b), fun w => by simp [execOp, hf.ev hb, Op.unary], h⟩
    · rename_i k n hb
      obtain ⟨r, hr, hc⟩ := h
      exact ⟨.int k r, fun w => by simp only [execOp, hf.ev hb, Op.unary, Op.intArith, Sem.run_bind, Sem.run_pure, Result.andThen_ok, hr], hc⟩
    · exact h.elim
  case convert s d x =>
    split at h
    · rename_i k n hv
      split at h
      · rename_i ds k' h1 h2
        obtain ⟨r, hr, hc⟩ := h
        exact ⟨.int k' r, fun w => by simp [execOp, hf.ev hv, convert, run_underlying h1, run_underlying h2, Conv.intToInt, hr], hc⟩
      · exact h.elim
    · rename_i b hv
      split at h
      · rename_i ds h1 h2
        exact ⟨.string b, fun w => by simp [execOp, hf.ev hv, convert, run_underlying h1, run_underlying h2], h⟩
      · exact h.elim
    · exact h.elim
  case makeInterface t x =>
    split at h
    · rename_i v hv hi
      exact ⟨.iface t v, fun w => by simp only [execOp, hf.ev hv, Sem.run_bind, isIface_spec hi, Result.andThen_ok, Sem.run_pure], h⟩
    · exact h.elim
  case makeFunc fn first cap =>
    split at h
    · rename_i vs us h1 h2
      have e1 : first.map a.eval = ⟨vs⟩ := by apply Array.ext'; rw [Array.toList_map, hf.evs h1]
      have e2 : cap.map a.eval = ⟨us⟩ := by apply Array.ext'; rw [Array.toList_map, hf.evs h2]
      exact ⟨.func fn ⟨vs⟩ ⟨us⟩, fun w => by simp only [execOp, e1, e2, Instr.makeFunc, Sem.run_bind, Sem.run_pure, Result.andThen_ok], h⟩
    · exact h.elim
  case slice t x lo hi mx =>
    split at h
    · rename_i s i j hx hi' hj'
      split at h
      · rename_i ht
        obtain ⟨v, hr, hc⟩ := strSlice_sound (P := P) ht (BoundIs.of hf hi') (BoundIs.of hf hj') h
        exact ⟨v, fun w => by simp only [execOp, hf.ev hx, Option.map_none, Sem.run_bind, hr, Result.andThen_ok, Sem.run_pure], hc⟩
      · exact h.elim
    · rename_i p n c i j hx hi' hj'
      split at h
      · rename_i e ht
        split at h
        · rename_i size he
          obtain ⟨v, hr, hc⟩ := slSlice_sound (P := P) ht he (BoundIs.of hf hi') (BoundIs.of hf hj') h
          exact ⟨v, fun w => by simp only [execOp, hf.ev hx, Option.map_none, Sem.run_bind, hr, Result.andThen_ok, Sem.run_pure], hc⟩
        · exact h.elim
      · exact h.elim
    · rename_i ad i j hx hi' hj'
      split at h
      · rename_i n e ht
        split at h
        · rename_i size he
          obtain ⟨v, hr, hc⟩ := arSlice_sound (P := P) ht he (BoundIs.of hf hi') (BoundIs.of hf hj') h
          exact ⟨v, fun w => by simp only [execOp, hf.ev hx, Option.map_none, Sem.run_bind, hr, Result.andThen_ok, Sem.run_pure], hc⟩
        · exact h.elim
      · exact h.elim
    · exact h.elim
  case fieldAddr t x f =>
    split at h
    · rename_i ad off ty hx hfo
      split at h
      · rename_i m hm
        obtain ⟨fs, g, h1, h2, h3, h4⟩ := fieldOff_spec hfo
        refine ⟨.pointer (some (ad.add off)), fun w => ?_, h⟩
        subst h3 h4
        simp [execOp, Instr.fieldAt, run_underlying h1, h2, hf.ev hx, Instr.sureAddr, fieldPlace, run_sizeOf hm]
      · exact h.elim
    · exact h.elim
  case field t x f =>
    split at h
    · rename_i cs off ty hx hfo
      obtain ⟨fs, g, h1, h2, h3, h4⟩ := fieldOff_spec hfo
      subst h3 h4
      split at h
      · rename_i size ha hs
        refine ⟨_, fun w => ?_, h⟩
        have : cs.extract g.offset (g.offset + size) = ⟨(cs.toList.drop g.offset).take size⟩ := by
          apply Array.ext'; simp
        simp [execOp, Instr.field, run_underlying h1, h2, hf.ev hx, asAgg, part, run_isAgg ha, run_sizeOf hs, this]
      · rename_i ha
        split at h
        · split at h
          · rename_i v hv
            refine ⟨v, fun w => ?_, h⟩
            rw [Array.getElem?_toList] at hv
            simp [execOp, Instr.field, run_underlying h1, h2, hf.ev hx, asAgg, part, run_isAgg ha, hv]
          · exact h.elim
        · obtain ⟨v, hv, hc⟩ := exRes_out h
          refine ⟨v, fun w => ?_, hc⟩
          rw [Array.getElem?_toList] at hv
          simp [execOp, Instr.field, run_underlying h1, h2, hf.ev hx, asAgg, part, run_isAgg ha, hv]
      · exact h.elim
    · exact h.elim
  case indexAddr t x i =>
    split at h
    · rename_i p n c k j hx hi
      split at h
      · rename_i e ht
        split at h
        · rename_i size he
          obtain ⟨⟨h0, h1⟩, h2⟩ := h
          have fin : ∀ ad, p = some ad → C (.pointer (some (ad.add (j.toNat * size)))) → ∃ v, Pure P ⟨dst, .indexAddr t x i, type, pos, after, guard⟩ a v ∧ C v := fun ad had hc => by
            subst had
            refine ⟨_, fun w => ?_, hc⟩
            simp [execOp, Instr.indexAt, hf.ev hx, hf.ev hi, asIntOf, run_underlying ht, h0, h1, run_sizeOf he]
          split at h2
          · split at h2
            · rename_i ad; exact fin ad rfl h2
            · exact h2.elim
          · obtain ⟨ad, had, hc⟩ := h2
            exact fin ad had hc
        · exact h.elim
      · exact h.elim
    · rename_i ad k j hx hi
      split at h
      · rename_i n e ht
        split at h
        · rename_i size he
          obtain ⟨⟨h0, h1⟩, hc⟩ := h
          refine ⟨_, fun w => ?_, hc⟩
          simp [execOp, Instr.indexAt, hf.ev hx, hf.ev hi, asIntOf, run_underlying ht, h0, h1, run_sizeOf he, Instr.sureAddr]
        · exact h.elim
      · exact h.elim
    · exact h.elim
  case index t x i =>
    split at h
    · rename_i s k j hx hi
      split at h
      · rename_i ht
        obtain ⟨b, ⟨h0, h1⟩, hc⟩ := h
        refine ⟨_, fun w => ?_, hc⟩
        have h1' : s[j.toNat]? = some b := by
          rw [Array.getElem?_toList] at h1
          have hlt : j.toNat < s.data.size := (Array.getElem?_eq_some_iff.1 h1).1
          have hlt' : j.toNat < s.size := hlt
          rw [getElem?_pos s j.toNat hlt']
          congr 1
          have := (Array.getElem?_eq_some_iff.1 h1).2
          exact this
        simp [execOp, Instr.index, hf.ev hx, hf.ev hi, asIntOf, run_underlying ht, h0, h1']
      · exact h.elim
    · exact h.elim
  case extract x i =>
    split at h
    · rename_i vs hv
      split at h
      · rename_i v hi
        rw [Array.getElem?_toList] at hi
        exact ⟨v, fun w => by simp [execOp, hf.ev hv, Instr.extract, hi], h⟩
      · exact h.elim
    · exact h.elim
  case call c =>
    have hrun : ∀ (b : Builtin) (vs : List Value) (v : Value), c.callee = .builtin b → evs l c.args.toList = some vs →
        (∀ w, (builtin b c.argTypes type (c.args.map isConstOp) ⟨vs⟩).run P w = .ok (.value v) w) → C v → ∃ v, Pure P ⟨dst, .call c, type, pos, after, guard⟩ a v ∧ C v := fun b vs v hcal hvs hr hc => by
      have hargs : c.args.map a.eval = ⟨vs⟩ := by
        apply Array.ext'
        rw [Array.toList_map, hf.evs hvs]
      have hres : resolve a.eval c type = pure { target := .builtin b c.argTypes type (c.args.map isConstOp), args := ⟨vs⟩ } := by
        simp only [resolve, hcal, hargs]
        rfl
      exact ⟨v, fun w => by simp only [execOp, hres, Sem.run_bind, Sem.run_pure, Result.andThen_ok, invoke, hr], hc⟩
    split at h
    · rename_i s hcal hvs
      split at h
      · rename_i ht
        obtain ⟨t, h0, h1⟩ := argT_spec ht
        exact hrun _ _ (.int .i64 s.size) hcal hvs (fun w => by simp [builtin, Builtin.len_, h0, run_underlying h1, goInt]) h
      · exact h.elim
    · rename_i hcal hvs
      split at h
      · rename_i ht
        obtain ⟨t, h0, h1⟩ := argT_spec ht
        exact hrun _ _ _ hcal hvs (fun w => by simp [builtin, Builtin.len_, h0, run_underlying h1, goInt]) h
      · exact h.elim
    · rename_i hcal hvs
      split at h
      · rename_i ht
        obtain ⟨t, h0, h1⟩ := argT_spec ht
        exact hrun _ _ _ hcal hvs (fun w => by simp [builtin, Builtin.cap_, h0, run_underlying h1, goInt]) h
      · exact h.elim
    · rename_i hcal hvs
      obtain ⟨r, hr, hc⟩ := h
      exact hrun _ _ _ hcal hvs (fun w => by simp [builtin, Builtin.max_, Builtin.max2, hr]) hc
    · rename_i hcal hvs
      obtain ⟨r, hr, hc⟩ := h
      exact hrun _ _ _ hcal hvs (fun w => by simp [builtin, Builtin.min_, Builtin.min2, hr]) hc
    · exact h.elim
variable {C : Value → World → Prop}
theorem callS_sound (hf : Fits l a) {c : Call} {dst : Option Tmp} {type : TypeId} {pos : String} {after : Array Edge} {g : Option (Nat × Bool)} {ss : List SH}
    (h : callS P c type l w ss C) : (Oper.mk dst (.call c) type pos after g).wp P a w (Good ⟨dst, .call c, type, pos, after, g⟩ a C) Q := by
  unfold callS at h
  split at h
  · exact h.elim
  · rename_i vs hvs
    have hargs : c.args.map a.eval = ⟨vs⟩ := by
      apply Array.ext'
      rw [Array.toList_map, hf.evs hvs]
    split at h
    · rename_i f hcal
      split at h
      · rename_i k first captured hev
        have hres : resolve a.eval c type = pure { target := .fn (.func k) captured, args := first ++ ⟨vs⟩ } := by
          simp only [resolve, hcal, hargs, hf.ev hev, Deferred.ofValue]
        have harr : (first ++ ⟨vs⟩) ++ captured = (⟨first.toList ++ (vs ++ captured.toList)⟩ : Array Value) := by
          apply Array.ext'; simp
        split at h
        · rename_i hent
          have hr : (execOp a.eval ⟨dst, .call c, type, pos, after, g⟩).run P w = .ok (.enter k ⟨first.toList ++ (vs ++ captured.toList)⟩) w := by
            simp only [execOp, hres, Sem.run_bind, Sem.run_pure, Result.andThen_ok, invoke, harr, enters_spec hent]
          exact good_enter (ss := ss) hr h
        · obtain ⟨v, w', hr, hc⟩ := exRes_out h
          refine good_value (v := v) (w' := w') ?_ hc
          simp only [execOp, hres, Sem.run_bind, Sem.run_pure, Result.andThen_ok, invoke, harr, hr]
      · exact h.elim
    · rename_i r m hcal
      split at h
      · rename_i v hev
        obtain ⟨g', as, hr, hc⟩ := h
        refine good_enter (g := g') (as := as) (w' := w) ?_ hc
        have hres : resolve a.eval c type = pure { target := .fn (.method m) #[], args := #[v] ++ ⟨vs⟩ } := by
          simp only [resolve, hcal, hargs, hf.ev hev]
        simp only [execOp, hres, Sem.run_bind, Sem.run_pure, Result.andThen_ok, invoke]
        have e1 : (#[v] ++ (⟨vs⟩ : Array Value))[0]? = some v := by simp
        have e2 : (#[v] ++ (⟨vs⟩ : Array Value)).extract 1 (#[v] ++ (⟨vs⟩ : Array Value)).size = ⟨vs⟩ := by
          apply Array.ext'
          simp
        simp only [e1, e2]
        exact hr
      · exact h.elim
    · rename_i b hcal
      have hres : resolve a.eval c type = pure { target := .builtin b c.argTypes type (c.args.map isConstOp), args := ⟨vs⟩ } := by
        simp only [resolve, hcal, hargs]
        rfl
      obtain ⟨v, w', hr, hc⟩ := exRes_out h
      refine good_value (v := v) (w' := w') ?_ hc
      have hcs : c.args.map isConstOp = ⟨c.args.toList.map isConstOp⟩ := by apply Array.ext'; simp
      unfold BuiltinOk at hr
      rw [← hcs] at hr
      simp only [execOp, hres, Sem.run_bind, Sem.run_pure, Result.andThen_ok, invoke, hr]
theorem good_pure (hf : Fits l a) (h : pureV P o oa l (fun v => C v w)) : o.wp P a w (Good o a C) Q := by
  obtain ⟨v, hr, hc⟩ := pureV_sound hf h
  exact good_value (hr w) hc
theorem opS_sound (hf : Fits l a) (h : opS P o oa l w C) : o.wp P a w (Good o a C) Q := by
  obtain ⟨dst, op, type, pos, after, guard⟩ := o
  cases op <;> simp only [opS] at h
  case alloc t =>
    split at h
    · rename_i z hz
      obtain ⟨v, hv, hvz⟩ := run_zeroValue hz w
      exact good_value (v := .pointer (some ⟨w.heap.size, 0, none⟩)) (w' := w.alloc (.cells z t)) (by simp [execOp, Instr.alloc, hv, newVar, newRow, hvz]) (h _ rfl)
    · exact h.elim
  case box t x =>
    split at h
    · rename_i v hv
      exact good_value (v := .pointer (some ⟨w.heap.size, 0, none⟩)) (w' := w.alloc (.cells v.cells t)) (by simp [execOp, Instr.box, hf.ev hv, newVar, newRow]) (h _ rfl)
    · exact h.elim
  case build t parts =>
    split at h
    · rename_i vs hvs
      split at h
      · rename_i cells hb
        have hp : parts.map (fun p => (p.1, a.eval p.2)) = ⟨vs⟩ := by
          apply Array.ext'; rw [Array.toList_map, evParts_spec hf hvs]
        exact good_value (v := .agg cells) (w' := w) (by simp only [execOp, hp, Sem.run_bind, run_build w t ⟨vs⟩ cells hb, Result.andThen_ok, Sem.run_pure]) h
      · exact h.elim
    · exact h.elim
  case buildSlice t n parts =>
    split at h
    · rename_i vs e hvs ht
      have hp : parts.map (fun p => (p.1, a.eval p.2)) = ⟨vs⟩ := by
        apply Array.ext'; rw [Array.toList_map, evParts_spec hf hvs]
      split at h
      · rename_i hb
        simp only [Bool.and_eq_true, beq_iff_eq, decide_eq_true_eq] at hb
        obtain ⟨⟨⟨⟨h1, h2⟩, h3⟩, h4⟩, h5⟩ := hb
        exact good_value (by simp only [execOp, hp, Sem.run_bind, run_buildSlice ht h1 h2 h3 h4 h5, Result.andThen_ok, Sem.run_pure]) (h _ rfl)
      · obtain ⟨cs, hr, hc⟩ := h
        exact good_value (by simp only [execOp, hp, Sem.run_bind, hr, Result.andThen_ok, Sem.run_pure]) hc
    · exact h.elim
  case load t x =>
    split at h
    · rename_i ad hv ht
      obtain ⟨v, hcell, hc⟩ := exRes_out h
      exact good_value (v := v) (w' := w) (by simp [execOp, Instr.loadAt, hf.ev hv, Instr.sureAddr, run_loadVar_one ht hcell]) hc
    · rename_i ad hv ht
      obtain ⟨cs, hl, hc⟩ := exRow_out h
      exact good_value (v := .agg ⟨cs⟩) (w' := w) (by simp [execOp, Instr.loadAt, hf.ev hv, Instr.sureAddr, run_loadVar_many ht hl]) hc
    · exact h.elim
  case store t x y =>
    split at h
    · rename_i ad v hx hy ht hn
      exact good_skip (w' := w.setCell ad v) (by simp [execOp, Instr.storeAt, hf.ev hx, hf.ev hy, Instr.sureAddr, run_storeVar_one hn h.1]) (h.2 _ rfl)
    · rename_i ad v hx hy ht
      obtain ⟨w', hr, hc⟩ := h
      exact good_skip (w' := w') (by simp only [execOp, hf.ev hx, hf.ev hy, Sem.run_bind, hr, Result.andThen_ok, Sem.run_pure]) hc
    · exact h.elim
  case binOp op t x y yt =>
    split at h
    · split at h
      · rename_i u v hu hv
        obtain ⟨r, w', hr, hc⟩ := exRes_out h
        refine good_value (v := r) (w' := w') ?_ hc
        simp only [execOp, hf.ev hu, hf.ev hv]
        rw [Sem.run_bind, hr]; rfl
      · exact h.elim
    · exact good_pure hf h
  case convert s d x =>
    split at h
    · split at h
      · rename_i v hv; exact good_does (s := convert s d v) (by simp only [execOp, hf.ev hv]) h
      · exact h.elim
    · exact good_pure hf h
  case unOp op t x =>
    split at h
    · split at h
      · rename_i v hv; exact good_does (s := Op.unary op v) (by simp only [execOp, hf.ev hv]) h
      · exact h.elim
    · exact good_pure hf h
  case makeSlice t n c =>
    split at h
    · rename_i u v hu hv; exact good_does (s := Instr.makeSlice t u v) (by simp only [execOp, hf.ev hu, hf.ev hv]) h
    · exact h.elim
  case range t x =>
    split at h
    · rename_i s hv ht
      exact good_value (v := .pointer (some ⟨w.heap.size, 0, none⟩)) (w' := w.alloc (.stringIter s 0)) (by simp only [execOp, hf.ev hv, Sem.run_bind, run_range_string w t s ht, Result.andThen_ok, Sem.run_pure]; rfl) (h _ rfl)
    · exact h.elim
  case next it isS =>
    split at h
    · rename_i v hv; exact good_does (s := Instr.next v isS type) (by simp only [execOp, hf.ev hv]) h
    · exact h.elim
  case call c =>
    cases hp : isPureCall c
    · rw [hp] at h; exact callS_sound hf h
    · rw [hp] at h; exact good_pure (oa := oa) hf h
  all_goals exact good_pure hf h
end
end Go.Vc
set_option linter.unusedVariables false
set_option linter.unusedSimpArgs false
namespace Go.Vc
inductive GA where
  | p (oa : OA)
  | gs (oa : OA) (p1 p2 : Nat)
  /-- On way 'p' the first, else the second. -/
  | on (p : Nat) (a b : GA)
  /-- A round over a string: there is one more character ('p1'), or not ('p2'). -/
  | nx (p1 p2 : Nat)
def GA.at (p : Nat) : GA → GA
  | .on q a b => match Nat.beq q p with
    | true => a
    | false => b.at p
  | g => g
def slotOf (ops : Array Oper) (j : Nat) : Option Nat :=
  match ops[j]? with
  | some o => o.dst
  | none => none
def goT (t want : Bool) (yes no : Prop) : Prop :=
  match t, want with
  | true, true => yes
  | false, false => yes
  | true, false => no
  | false, true => no
def nextS (o : Oper) (p1 p2 : Nat) (l : Env) (w : World) (K : Env → World → Prop) : Prop :=
  match o.op with
  | .next it true => match ev l it with
    | some (.pointer (some ⟨r, 0, _⟩)) => ∃ (s : List UInt8) (pos : Nat), w.heap[r]? = some (.stringIter (mkS s) pos) ∧
        (pos < s.length → ∀ w', w' = { w with heap := w.heap.setIfInBounds r (.stringIter (mkS s) (pos + (Utf8.decode (mkS s) pos).2)) } →
          K (put (onWay l p1) o.dst (.tuple ⟨[.bool true, .int .i64 pos, .int .i32 (Utf8.decode (mkS s) pos).1]⟩)) w') ∧
        (¬ pos < s.length → K (put (onWay l p2) o.dst (.tuple ⟨[.bool false]⟩)) w)
    | _ => False
  | _ => False
def opG (P : Program) (ops : Array Oper) (o : Oper) (ga : GA) (l : Env) (w : World) (K : Env → World → Prop) : Prop :=
  match o.guard with
  | none => match ga.at l.p with
    | .p oa => opS P o oa l w fun v w' => K (put l o.dst v) w'
    | .nx p1 p2 => nextS o p1 p2 l w K
    | _ => False
  | some (j, want) => match slotOf ops j with
    | none => False
    | some d => match look l d with
      | some (.bool b) => match ga.at l.p with
        | .p oa => goT b want (opS P o oa l w fun v w' => K (put l o.dst v) w') (K (put l o.dst undef) w)
        | .gs oa p1 p2 =>
          (b = true → goT true want (opS P o oa (onWay (keep l d (some (.bool true))) p1) w fun v w' => K (put (onWay (keep l d (some (.bool true))) p1) o.dst v) w') (K (put (onWay (keep l d (some (.bool true))) p1) o.dst undef) w)) ∧
          (b = false → goT false want (opS P o oa (onWay (keep l d (some (.bool false))) p2) w fun v w' => K (put (onWay (keep l d (some (.bool false))) p2) o.dst v) w') (K (put (onWay (keep l d (some (.bool false))) p2) o.dst undef) w))
        | .on _ _ _ => False
        | .nx _ _ => False
      | some (.tuple _) => K (put l o.dst undef) w
      | _ => False
def opsV (P : Program) (ops : Array Oper) : List Oper → List GA → Env → World → (Env → World → Prop) → Prop
  | [], _, l, w, K => K l w
  | o :: rest, [], l, w, K => opG P ops o (.p .n) l w fun l' w' => opsV P ops rest [] l' w' K
  | o :: rest, ga :: gas, l, w, K => opG P ops o ga l w fun l' w' => opsV P ops rest gas l' w' K
section
variable {P : Program} {ops : Array Oper} {o : Oper} {ga : GA} {l : Env} {a : Act} {w : World} {K : Env → World → Prop} {Q : Exit → Act → World → Prop}
theorem Fits.keep_known (hf : Fits l a) {d : Nat} {v : Value} (h : look l d = some v) : Fits (keep l d (some v)) a := by
  refine ⟨by rw [keep_n]; exact hf.size, fun i u hu => ?_, hf.defers⟩
  rw [keep_n]
  by_cases e : d = i
  · subst e
    rw [look_keep_same _ _ _ (hf.val _ _ h).1] at hu
    cases hu
    exact hf.val _ _ h
  · rw [look_keep_other _ _ _ _ e] at hu
    exact hf.val i u hu
def StepTo (K : Env → World → Prop) (o : Oper) (a : Act) : Act → World → Prop := fun a' w' => ∃ l' v, a' = a.put o.dst v ∧ Fits l' a' ∧ K l' w'
def stepOk (P : Program) (ops : Array Oper) (o : Oper) (a : Act) (w : World) (next : Act → World → Prop) (Q : Exit → Act → World → Prop) : Prop :=
  if Region.wanted o (yielded ops a.tmps) then o.wp P a w next Q ∨ (o.asks P a w ∧ LetsOut Q) else next (a.put o.dst undef) w
theorem yielded_bool (hf : Fits l a) {j d : Nat} {b : Bool} (hs : slotOf ops j = some d) (h : look l d = some (.bool b)) : yielded ops a.tmps j = some b := by
  have hv := (hf.val _ _ h).2
  unfold slotOf at hs
  unfold yielded
  cases ho : ops[j]? with
  | none => rw [ho] at hs; cases hs
  | some o' =>
    rw [ho] at hs
    have hs' : o'.dst = some d := hs
    have hlt : d < a.tmps.size := by rw [hf.size]; exact (hf.val _ _ h).1
    have : a.tmps[d]? = some (.bool b) := by
      have e : a.tmps[d]? = some (a.tmps[d]'hlt) := Array.getElem?_eq_getElem hlt
      rw [e]; congr 1
      simpa [Array.getD_eq_getD_getElem?, e] using hv
    simp [hs', this]
theorem yielded_none (hf : Fits l a) {j d : Nat} {vs : Array Value} (hs : slotOf ops j = some d) (h : look l d = some (.tuple vs)) : yielded ops a.tmps j = none := by
  have hv := (hf.val _ _ h).2
  unfold slotOf at hs
  unfold yielded
  cases ho : ops[j]? with
  | none => rw [ho] at hs; cases hs
  | some o' =>
    rw [ho] at hs
    have hs' : o'.dst = some d := hs
    have hlt : d < a.tmps.size := by rw [hf.size]; exact (hf.val _ _ h).1
    have : a.tmps[d]? = some (.tuple vs) := by
      have e : a.tmps[d]? = some (a.tmps[d]'hlt) := Array.getElem?_eq_getElem hlt
      rw [e]; congr 1
      simpa [Array.getD_eq_getD_getElem?, e] using hv
    simp [hs', this]
theorem nextS_sound {p1 p2 : Nat} (hf : Fits l a) (h : nextS o p1 p2 l w K) : o.wp P a w (StepTo K o a) Q := by
  obtain ⟨dst, op, type, pos', after, guard⟩ := o
  unfold nextS at h
  split at h
  · rename_i it hop
    simp only at hop
    subst hop
    split at h
    · rename_i r sp hit
      obtain ⟨s, pos, hb, h1, h2⟩ := h
      have hsz : (mkS s).size = s.length := rfl
      by_cases hlt : pos < s.length
      · have hr : (Instr.next (.pointer (some ⟨r, 0, sp⟩)) true type).run P w = .ok (.tuple #[.bool true, .int .i64 pos, .int .i32 (Utf8.decode (mkS s) pos).1]) { w with heap := w.heap.setIfInBounds r (.stringIter (mkS s) (pos + (Utf8.decode (mkS s) pos).2)) } := by
          simp [Instr.next, getObj, setObj, Sem.run, hb, hsz, hlt, goInt]
        unfold Oper.wp
        simp only [execOp, hf.ev hit, Sem.run_bind, hr, Result.andThen_ok, Sem.run_pure, Oper.upon]
        exact ⟨_, _, rfl, (hf.onWay p1).put _ _, h1 hlt _ rfl⟩
      · have hr : (Instr.next (.pointer (some ⟨r, 0, sp⟩)) true type).run P w = .ok (.tuple #[.bool false]) w := by
          simp [Instr.next, getObj, setObj, Sem.run, hb, hsz, hlt, goInt]
        unfold Oper.wp
        simp only [execOp, hf.ev hit, Sem.run_bind, hr, Result.andThen_ok, Sem.run_pure, Oper.upon]
        exact ⟨_, _, rfl, (hf.onWay p2).put _ _, h2 hlt⟩
    · exact h.elim
  · exact h.elim
theorem opG_sound (hf : Fits l a) (h : opG P ops o ga l w K) : stepOk P ops o a w (StepTo K o a) Q := by
  unfold opG at h
  have run : ∀ (l : Env) (oa : OA), Fits l a → (opS P o oa l w fun v w' => K (put l o.dst v) w') → o.wp P a w (StepTo K o a) Q := fun l oa hf h =>
    Oper.wp_mono (fun a' w' ⟨v, ha, hk⟩ => ⟨put l o.dst v, v, ha, by rw [ha]; exact hf.put _ _, hk⟩) (opS_sound (Q := Q) hf h)
  split at h
  · rename_i hg
    split at h
    · rename_i oa _
      unfold stepOk
      rw [if_pos (by simp [Region.wanted, hg])]
      exact .inl (run l oa hf h)
    · rename_i p1 p2 _
      unfold stepOk
      rw [if_pos (by simp [Region.wanted, hg])]
      exact .inl (nextS_sound hf h)
    · exact h.elim
  · rename_i j want hg
    split at h
    · exact h.elim
    · rename_i d hd
      split at h
      · rename_i b hb
        have hy := yielded_bool hf hd hb
        have fin : ∀ (l : Env) (oa : OA) (b want : Bool), Fits l a → o.guard = some (j, want) → yielded ops a.tmps j = some b →
            goT b want (opS P o oa l w fun v w' => K (put l o.dst v) w') (K (put l o.dst undef) w) → stepOk P ops o a w (StepTo K o a) Q := fun l oa b want hf hg hy h => by
          unfold stepOk
          cases b <;> cases want <;> simp only [goT] at h
          · rw [if_pos (by simp [Region.wanted, hg, hy])]; exact .inl (run l oa hf h)
          · rw [if_neg (by simp [Region.wanted, hg, hy])]; exact ⟨_, _, rfl, hf.put _ _, h⟩
          · rw [if_neg (by simp [Region.wanted, hg, hy])]; exact ⟨_, _, rfl, hf.put _ _, h⟩
          · rw [if_pos (by simp [Region.wanted, hg, hy])]; exact .inl (run l oa hf h)
        split at h
        · rename_i oa _; exact fin l oa b want hf hg hy h
        · rename_i oa _ _ _
          cases hb' : b
          · subst hb'; exact fin _ oa false want ((hf.keep_known hb).onWay _) hg hy (h.2 rfl)
          · subst hb'; exact fin _ oa true want ((hf.keep_known hb).onWay _) hg hy (h.1 rfl)
        · exact h.elim
        · exact h.elim
      · rename_i vs hvs
        have hy := yielded_none hf hd hvs
        unfold stepOk
        rw [if_neg (by simp [Region.wanted, hg, hy])]
        exact ⟨_, _, rfl, hf.put _ _, h⟩
      · exact h.elim
def dsts : List Oper → List Nat
  | [] => []
  | o :: r => match o.dst with
    | some d => d :: dsts r
    | none => dsts r
def Frame (is : List Nat) (a a' : Act) : Prop := a'.tmps.size = a.tmps.size ∧ ∀ i, i ∉ is → a'.tmps.getD i undef = a.tmps.getD i undef
theorem Frame.refl (is : List Nat) (a : Act) : Frame is a a := ⟨rfl, fun _ _ => rfl⟩
theorem Frame.trans {is : List Nat} {a b c : Act} (h : Frame is a b) (k : Frame is b c) : Frame is a c := ⟨k.1.trans h.1, fun i hi => (k.2 i hi).trans (h.2 i hi)⟩
theorem Frame.mono {is js : List Nat} {a b : Act} (h : Frame is a b) (hs : ∀ i, i ∈ is → i ∈ js) : Frame js a b := ⟨h.1, fun i hi => h.2 i (fun x => hi (hs i x))⟩
theorem Frame.put {is : List Nat} (a : Act) (d : Option Nat) (v : Value) (h : ∀ x, d = some x → x ∈ is) : Frame is a (a.put d v) := by
  refine ⟨size_put _ _ _, fun i hi => ?_⟩
  cases d with
  | none => rfl
  | some d => exact getD_put_other a d i v (fun e => hi (e ▸ h d rfl))
theorem mem_dsts (os : List Oper) (o : Oper) (h : o ∈ os) (x : Nat) (hx : o.dst = some x) : x ∈ dsts os := by
  induction os with
  | nil => cases h
  | cons o' r ih =>
    simp only [dsts]
    rcases List.mem_cons.1 h with e | h
    · subst e; rw [hx]; exact List.mem_cons_self ..
    · have hm := ih h
      cases o'.dst with
      | none => exact hm
      | some d => exact List.mem_cons_of_mem _ hm
def Ends (is : List Nat) (a : Act) (Q : Exit → Env → World → Prop) : Exit → Act → World → Prop :=
  fun e a' w' => Frame is a a' ∧ ∃ l', Fits l' a' ∧ Q e l' w'
theorem opsV_sound {P : Program} {ops : Array Oper} {is : List Nat} {Q' : Exit → Act → World → Prop} {a0 : Act} (hQ : ∀ l' a' w', Frame is a0 a' → Fits l' a' → K l' w' → Q' .normal a' w') :
    ∀ (os : List Oper) (gas : List GA) (l : Env) (a : Act) (w : World), (∀ o ∈ os, ∀ x, o.dst = some x → x ∈ is) → Frame is a0 a → Fits l a → opsV P ops os gas l w K → wpList P ops Q' os a w := by
  intro os
  induction os with
  | nil => intro gas l a w _ hfr hf h; exact hQ l a w hfr hf h
  | cons o rest ih =>
    intro gas l a w hin hfr hf h
    have step : ∀ (ga : GA) (gas : List GA), (opG P ops o ga l w fun l' w' => opsV P ops rest gas l' w' K) → wpList P ops Q' (o :: rest) a w := fun ga gas h => by
      have h1 := opG_sound (Q := Q') hf h
      unfold stepOk at h1
      have key : ∀ a' w', StepTo (fun l' w' => opsV P ops rest gas l' w' K) o a a' w' → wpList P ops Q' rest a' w' := fun a' w' ⟨l', v, ha, hf', hk⟩ =>
        ih gas l' a' w' (fun o' ho' => hin o' (List.mem_cons_of_mem _ ho')) (hfr.trans (ha ▸ Frame.put a o.dst v (hin o (by simp)))) hf' hk
      simp only [wpList]
      split
      · rename_i hw
        rw [if_pos hw] at h1
        exact h1.imp (Oper.wp_mono key) id
      · rename_i hw
        rw [if_neg hw] at h1
        exact key _ _ h1
    cases gas with
    | nil => exact step _ _ h
    | cons ga gas => exact step _ _ h
end
end Go.Vc
