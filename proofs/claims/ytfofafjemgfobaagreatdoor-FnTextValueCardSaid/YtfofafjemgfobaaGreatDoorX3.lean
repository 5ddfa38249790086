/- Parts of a proof, joined: VcOrder, VcCode. -/
import Derived.Test.YtfofafjemgfobaaGreatDoorX2
import Derived.OrdersHeld
import Derived.Scope
import Derived.Laws.Sem
set_option linter.unusedVariables false
set_option linter.unusedSimpArgs false
namespace Go.Vc
section
variable {P : Program} {ops : Array Oper} {Q : Exit → Act → World → Prop} {S T : World → Prop} {N : Nat → Bool}
def wpAnyN (P : Program) (ops : Array Oper) (Q : Exit → Act → World → Prop) (S : World → Prop) (N : Nat → Bool) : Nat → Array Bool → Act → World → Prop
  | 0, listed, a, w => Region.ready .any ops listed = [] ∧ Q .normal a w
  | fuel + 1, listed, a, w =>
    (Region.ready .any ops listed = [] → Q .normal a w) ∧
    ∀ i ∈ Region.ready .any ops listed, wpOp P ops Q i (fun a' w' => (N i = true → S w → S w') ∧ wpAnyN P ops Q S N fuel (listed.setIfInBounds i true) a' w') a w
theorem wpAny_of_N : ∀ (fuel : Nat) (listed : Array Bool) (a : Act) (w : World), wpAnyN P ops Q S N fuel listed a w → wpAny P .any ops Q fuel listed a w
  | 0, _, _, _, h => h
  | fuel + 1, _, _, _, h => ⟨h.1, fun i hi => wpOp_mono (fun a' w' h' => wpAny_of_N fuel _ a' w' h'.2) (h.2 i hi)⟩
def reach (ops : Array Oper) (i : Nat) : Nat → Nat → Bool
  | 0, _ => false
  | f + 1, j => match ops[j]? with
    | none => false
    | some o => o.after.toList.any fun e => Region.binds .any e && (e.on == i || reach ops i f e.on)
def Closed (ops : Array Oper) (listed : Array Bool) : Prop :=
  ∀ j o, ops[j]? = some o → listed.getD j false = true → ∀ e ∈ o.after, Region.binds .any e = true → listed.getD e.on false = true
theorem reach_afters {i : Nat} {listed : Array Bool} (hc : Closed ops listed) : ∀ (f j : Nat), reach ops i f j = true →
    (∀ o, ops[j]? = some o → ∀ e ∈ o.after, Region.binds .any e = true → listed.getD e.on false = true) → listed.getD i false = true
  | 0, j, h, _ => by simp [reach] at h
  | f + 1, j, h, hj => by
    simp only [reach] at h
    split at h
    · cases h
    · rename_i o ho
      rw [List.any_eq_true] at h
      obtain ⟨e, he, h⟩ := h
      simp only [Bool.and_eq_true, Bool.or_eq_true, beq_iff_eq] at h
      obtain ⟨hb, h⟩ := h
      have hl := hj o ho e (by simpa using he) hb
      rcases h with rfl | h
      · exact hl
      · exact reach_afters hc f e.on h (fun o' ho' => hc _ _ ho' hl)
theorem getD_false_of {listed : Array Bool} {j : Nat} (h : listed.getD j true = false) : listed.getD j false = false := by
  rcases Nat.lt_or_ge j listed.size with h' | h'
  · simp [h'] at h ⊢; exact h
  · simp [Array.getElem?_eq_none h'] at h
theorem reach_ready {i j f : Nat} {listed : Array Bool} (hc : Closed ops listed) (hi : listed.getD i true = false) (hj : j ∈ Region.ready .any ops listed) : reach ops i f j = false := by
  cases h : reach ops i f j
  · rfl
  · obtain ⟨_, o, ho, hall⟩ := mem_ready.1 hj
    have := reach_afters hc f j h (fun o' ho' => by rw [ho] at ho'; cases ho'; exact hall)
    rw [getD_false_of hi] at this; cases this
theorem Closed.set {j : Nat} {listed : Array Bool} (hc : Closed ops listed) (hj : j ∈ Region.ready .any ops listed) : Closed ops (listed.setIfInBounds j true) := by
  intro k o ho hk e he hb
  by_cases h : j = k
  · subst h
    obtain ⟨_, o', ho', hall⟩ := mem_ready.1 hj
    rw [ho] at ho'; cases ho'
    exact getD_set_true (hall e he hb)
  · rw [getD_set_ne false h] at hk
    exact getD_set_true (hc k o ho hk e he hb)
theorem wpAnyN_first {F i : Nat} {oi : Oper} {v : Value} (hi : ops[i]? = some oi) (hsel : ∀ (j : Nat) (o : Oper) cs b, ops[j]? = some o → o.op ≠ .select cs b)
    (hQ : ∀ c a w, Q (.panic c) (a.put oi.dst v) w → Q (.panic c) a w)
    (hT : ∀ j, reach ops i F j = false → ∀ w w', (N j = true → S w → S w') → T w → T w') :
    ∀ (fuel : Nat) (listed : Array Bool) (a : Act) (w : World), Closed ops listed →
      (∀ j oj, ops[j]? = some oj → j ≠ i → listed.getD j true = false → (∀ e ∈ oj.after, Region.binds .any e = true → e.on ≠ i) → oi.apart ops oj = true) →
      i ∈ Region.ready .any ops listed → YieldsIf P ops T oi v a → T w →
      wpAnyN P ops Q S N fuel (listed.setIfInBounds i true) (a.put oi.dst v) w → wpAnyN P ops Q S N (fuel + 1) listed a w := by
  intro fuel
  induction fuel with
  | zero =>
    intro listed a w _ _ hr hy hS H
    refine ⟨fun h => (by rw [h] at hr; cases hr), fun j hj => ?_⟩
    by_cases hji : j = i
    · subst hji; exact hy.wpOp hi hS ⟨fun _ h => h, H⟩
    · have := ready_mono hj hji
      rw [H.1] at this
      cases this
  | succ fuel ih =>
    intro listed a w hcl hfree hr hy hS H
    refine ⟨fun h => (by rw [h] at hr; cases hr), fun j hj => ?_⟩
    by_cases hji : j = i
    · subst hji; exact hy.wpOp hi hS ⟨fun _ h => h, H⟩
    · have h1 := H.2 j (ready_mono hj hji)
      obtain ⟨hjun, oj, hoj, hall⟩ := mem_ready.1 hj
      have hnot : ∀ e ∈ oj.after, Region.binds .any e = true → e.on ≠ i := fun e he hb heq => by
        have h1 := hall e he hb
        have h0 := (mem_ready.1 hr).1
        rw [heq] at h1
        rw [getD_false_of h0] at h1; cases h1
      have h2 := wpOp_putIf hoj (hfree j oj hoj hji hjun hnot) (fun cs b => hsel i oi cs b hi) (fun cs b => hsel j oj cs b hoj) hQ hy h1
      have hfree' : ∀ k ok, ops[k]? = some ok → k ≠ i → (listed.setIfInBounds j true).getD k true = false →
          (∀ e ∈ ok.after, Region.binds .any e = true → e.on ≠ i) → oi.apart ops ok = true := fun k ok hk hki hun hno => by
        refine hfree k ok hk hki ?_ hno
        by_cases hjk : j = k
        · subst hjk; exact hjun
        · rw [getD_set_ne true hjk] at hun; exact hun
      refine wpOp_mono (fun a' w' h3 => ⟨h3.2.1, ih (listed.setIfInBounds j true) a' w' (hcl.set hj) hfree' (ready_mono hr (Ne.symm hji)) h3.1
        (hT j (reach_ready hcl (mem_ready.1 hr).1 hj) w w' h3.2.1 hS) ?_⟩) h2
      rw [Array.setIfInBounds_comm _ _ hji]
      exact h3.2.2
end
def optL {α : Type} : Option α → List α
  | none => []
  | some x => [x]
def usesOp : Op → List Operand
  | .alloc _ | .ready _ | .waits _ => []
  | .move x | .assign x | .box _ x | .load _ x | .nilCheck x | .unOp _ _ x | .convert _ _ x | .sliceToArrayPointer _ x | .makeInterface _ x
  | .makeChan _ x | .fieldAddr _ x _ | .field _ x _ | .range _ x | .next x _ | .entry x | .typeAssert x _ _ _ | .extract x _ | .panic x | .recv _ x _ => [x]
  | .pick c a b => [c, a, b]
  | .build _ ps | .buildSlice _ _ ps => ps.toList.map (·.2)
  | .store _ a v | .binOp _ _ a v _ | .makeSlice _ a v | .indexAddr _ a v | .index _ a v | .lookup _ a v _ | .mapEntry _ a v | .send a v => [a, v]
  | .makeFunc _ first captured => first.toList ++ captured.toList
  | .makeMap _ r => optL r
  | .slice _ x l h m => x :: (optL l ++ (optL h ++ optL m))
  | .mapUpdate _ m k v | .entryStore _ m k v | .insert _ m k v => [m, k, v]
  | .call c | .go c | .defer c => (match c.callee with | .value f => [f] | .invoke r _ => [r] | .builtin _ => []) ++ c.args.toList
  | .select cs _ => []
def isSelect : Op → Bool
  | .select _ _ => true
  | _ => false
def tmpsOf : List Operand → List Nat
  | [] => []
  | .tmp t :: r => t :: tmpsOf r
  | _ :: r => tmpsOf r
def usesB (ops : Array Oper) (o : Oper) : List Nat :=
  tmpsOf (usesOp o.op) ++ (match o.guard with
  | some (g, _) => optL (slotOf ops g)
  | none => [])
def memB : List Nat → Nat → Bool
  | [], _ => false
  | x :: l, y => x == y || memB l y
def apartB (ops : Array Oper) (x y : Oper) : Bool :=
  (match x.dst with
   | some d => !memB (usesB ops y) d && (match y.dst with | some e => !(e == d) | none => true)
   | none => true) &&
  (match y.dst with
   | some d => !memB (usesB ops x) d
   | none => true)
theorem memB_iff {l : List Nat} {y : Nat} : memB l y = true ↔ y ∈ l := by
  induction l with
  | nil => simp [memB]
  | cons x l ih =>
    simp only [memB, Bool.or_eq_true, beq_iff_eq, ih, List.mem_cons]
    exact ⟨fun h => h.imp Eq.symm id, fun h => h.imp Eq.symm id⟩
theorem tmpsOf_eq (l : List Operand) : tmpsOf l = l.filterMap (fun | .tmp t => some t | _ => none) := by
  induction l with
  | nil => rfl
  | cons x l ih => cases x <;> simp [tmpsOf, ih]
theorem optL_toList {α : Type} (x : Option α) : x.toList = optL x := by cases x <;> rfl
theorem usesOp_eq (o : Op) (h : isSelect o = false) : o.operands.toList = usesOp o := by
  cases o <;> simp [Op.operands, usesOp, optL_toList, Call.operands]
  case call c => cases c.callee <;> rfl
  case go c => cases c.callee <;> rfl
  case defer c => cases c.callee <;> rfl
  case select => simp [isSelect] at h
theorem usesB_eq (ops : Array Oper) (o : Oper) (h : isSelect o.op = false) : o.looksAt ops = usesB ops o := by
  unfold Oper.looksAt usesB
  rw [usesOp_eq _ h, tmpsOf_eq]
  congr 1
  cases o.guard with
  | none => rfl
  | some g =>
    obtain ⟨g, b⟩ := g
    simp only [slotOf]
    cases ops[g]? with
    | none => rfl
    | some o' => cases ho : o'.dst <;> simp [optL, ho]
theorem apartB_spec {ops : Array Oper} {x y : Oper} (hx : isSelect x.op = false) (hy : isSelect y.op = false) (h : apartB ops x y = true) : x.apart ops y = true := by
  unfold Oper.apart
  unfold apartB at h
  rw [usesB_eq ops x hx, usesB_eq ops y hy]
  have cont : ∀ (l : List Nat) d, memB l d = false → l.contains d = false := fun l d hh => by
    cases hc : l.contains d
    · rfl
    · rw [List.contains_iff_mem, ← memB_iff, hh] at hc; cases hc
  cases hxd : x.dst with
  | none =>
    cases hyd : y.dst with
    | none => rfl
    | some e =>
      rw [hxd, hyd] at h
      simp only [Bool.true_and, Bool.not_eq_true'] at h ⊢
      exact cont _ _ h
  | some d =>
    cases hyd : y.dst with
    | none =>
      rw [hxd, hyd] at h
      simp only [Bool.and_true, Bool.not_eq_true', Bool.and_eq_true] at h ⊢
      exact ⟨cont _ _ h, by simp⟩
    | some e =>
      rw [hxd, hyd] at h
      simp only [Bool.not_eq_true', Bool.and_eq_true] at h ⊢
      obtain ⟨⟨h1, h2⟩, h3⟩ := h
      exact ⟨⟨cont _ _ h1, by simp at h2 ⊢; exact h2⟩, cont _ _ h3⟩
def getB : List Bool → Nat → Bool → Bool
  | [], _, d => d
  | x :: _, 0, _ => x
  | _ :: l, i + 1, d => getB l i d
theorem getB_eq (L : List Bool) (d : Bool) : ∀ i, (⟨L⟩ : Array Bool).getD i d = getB L i d := by
  induction L with
  | nil => intro i; simp [getB]
  | cons x L ih =>
    intro i
    cases i with
    | zero => simp [getB]
    | succ i => rw [getB, ← ih i]; simp
def setB : List Bool → Nat → List Bool
  | [], _ => []
  | _ :: l, 0 => true :: l
  | x :: l, i + 1 => x :: setB l i
theorem setB_eq : ∀ (L : List Bool) (i : Nat), (⟨L⟩ : Array Bool).setIfInBounds i true = ⟨setB L i⟩ := by
  intro L i
  apply Array.ext'
  rw [Array.toList_setIfInBounds]
  show L.set i true = setB L i
  induction L generalizing i with
  | nil => rfl
  | cons x L ih =>
    cases i with
    | zero => rfl
    | succ i => simp [setB, ← ih]
def unl : List Bool → Nat
  | [] => 0
  | true :: l => unl l
  | false :: l => unl l + 1
theorem unl_set : ∀ (L : List Bool) (i : Nat), getB L i true = false → unl L = unl (setB L i) + 1
  | [], i, h => by simp [getB] at h
  | x :: L, 0, h => by simp [getB] at h; subst h; simp [setB, unl]
  | x :: L, i + 1, h => by
    have := unl_set L i h
    cases x <;> simp [setB, unl, this]
theorem getB_setB : ∀ (L : List Bool) (i : Nat), getB L i true = false → getB (setB L i) i false = true
  | [], i, h => by simp [getB] at h
  | x :: L, 0, h => rfl
  | x :: L, i + 1, h => getB_setB L i h
theorem unl_rep (n : Nat) : unl (List.replicate n false) = n := by
  induction n with
  | zero => rfl
  | succ n ih => simp [List.replicate, unl, ih]
def readyB (ops : Array Oper) (L : List Bool) (j : Nat) : Bool :=
  !getB L j true && (match ops[j]? with
  | some o => o.after.toList.all fun e => !Region.binds .any e || getB L e.on false
  | none => false)
def upto : Nat → List Nat → List Nat
  | 0, acc => acc
  | n + 1, acc => upto n (n :: acc)
theorem mem_upto : ∀ (n : Nat) (acc : List Nat) (j : Nat), j ∈ upto n acc ↔ j < n ∨ j ∈ acc
  | 0, acc, j => by simp [upto]
  | n + 1, acc, j => by
    rw [upto, mem_upto n, List.mem_cons]
    by_cases h : j ∈ acc <;> simp only [h, or_true, or_false] <;> omega
def readyL (ops : Array Oper) (L : List Bool) : List Nat := (upto ops.toList.length []).filter (readyB ops L)
theorem readyB_iff {ops : Array Oper} {L : List Bool} {j : Nat} : readyB ops L j = true ↔ j ∈ Region.ready .any ops ⟨L⟩ := by
  rw [mem_ready]
  unfold readyB
  rw [Bool.and_eq_true, Bool.not_eq_true', getB_eq]
  refine and_congr Iff.rfl ?_
  cases ops[j]? with
  | none => simp
  | some o =>
    simp only [List.all_eq_true, Bool.or_eq_true, Bool.not_eq_true', Option.some.injEq, exists_eq_left']
    constructor
    · intro h e he hb
      rw [getB_eq]
      exact (h e (by simpa using he)).resolve_left (by simp [hb])
    · intro h e he
      cases hb : Region.binds .any e
      · exact .inl rfl
      · exact .inr (by rw [← getB_eq]; exact h e (by simpa using he) hb)
theorem mem_readyL {ops : Array Oper} {L : List Bool} {j : Nat} : j ∈ readyL ops L ↔ j ∈ Region.ready .any ops ⟨L⟩ := by
  unfold readyL
  rw [List.mem_filter, readyB_iff, mem_upto]
  refine ⟨fun h => h.2, fun h => ⟨.inl ?_, h⟩⟩
  obtain ⟨_, o, ho, _⟩ := mem_ready.1 h
  exact (Array.getElem?_eq_some_iff.1 ho).1
def freeB (ops : Array Oper) (L : List Bool) (i : Nat) : Bool :=
  match ops[i]? with
  | none => false
  | some oi => (upto ops.toList.length []).all fun j => j == i || (getB L j true || (match ops[j]? with
      | some oj => oj.after.toList.any (fun e => Region.binds .any e && e.on == i) || apartB ops oi oj
      | none => true))
def noSelB : List Oper → Bool
  | [] => true
  | o :: r => !isSelect o.op && noSelB r
theorem noSelB_spec {l : List Oper} (h : noSelB l = true) : ∀ o ∈ l, isSelect o.op = false := by
  induction l with
  | nil => intro o ho; cases ho
  | cons x l ih =>
    simp only [noSelB, Bool.and_eq_true, Bool.not_eq_true'] at h
    intro o ho
    rcases List.mem_cons.1 ho with rfl | ho
    · exact h.1
    · exact ih h.2 o ho
theorem freeB_spec {ops : Array Oper} {L : List Bool} {i : Nat} {oi : Oper} (hs : noSelB ops.toList = true) (hi : ops[i]? = some oi) (h : freeB ops L i = true) (j : Nat) (oj : Oper)
    (hj : ops[j]? = some oj) (hne : j ≠ i) (hun : (⟨L⟩ : Array Bool).getD j true = false) (hno : ∀ e ∈ oj.after, Region.binds .any e = true → e.on ≠ i) : oi.apart ops oj = true := by
  simp only [freeB, hi, List.all_eq_true] at h
  have h1 := h j ((mem_upto _ _ _).2 (.inl (Array.getElem?_eq_some_iff.1 hj).1))
  rw [getB_eq] at hun
  simp only [hj, Bool.or_eq_true, beq_iff_eq, hne, false_or, hun, Bool.false_eq_true] at h1
  rcases h1 with h1 | h1
  · rw [List.any_eq_true] at h1
    obtain ⟨e, he, hb⟩ := h1
    simp only [Bool.and_eq_true, beq_iff_eq] at hb
    exact absurd hb.2 (hno e (by simpa using he) hb.1)
  · exact apartB_spec (noSelB_spec hs oi (Array.mem_toList_iff.2 (Array.mem_of_getElem? hi))) (noSelB_spec hs oj (Array.mem_toList_iff.2 (Array.mem_of_getElem? hj))) h1
inductive OT where
  | done
  | take (i : Nat) (ga : GA) (t : OT)
  | run (i : Nat) (ga : GA) (t u : OT)
def OT.alts : OT → List Nat
  | .run i _ _ u => i :: u.alts
  | _ => []
abbrev Hold := Option (List (Addr × Value) × List Nat)
def Kept (w : World) : List (Addr × Value) → Prop
  | [] => True
  | [p] => w.cell? p.1 = some p.2
  | p :: q :: r => w.cell? p.1 = some p.2 ∧ Kept w (q :: r)
theorem Kept.at {w : World} : ∀ {l : List (Addr × Value)}, Kept w l → ∀ p ∈ l, w.cell? p.1 = some p.2
  | [], _, p, h => by cases h
  | [q], h, p, hp => by simp at hp; subst hp; exact h
  | q :: r :: l, h, p, hp => by
    rcases List.mem_cons.1 hp with rfl | hp
    · exact h.1
    · exact Kept.at h.2 p hp
def takeV (P : Program) (m : Hold) (o : Oper) (oa : OA) (l : Env) (w : World) (C : Value → Prop) : Prop :=
  match o.op with
  | .load t x => match ev l x, isAgg' P t with
    | some (.pointer (some ad)), some false => exRes oa.shs fun v => (match m with
      | none => w.cell? ad = some v
      | some (f, _) => (ad, v) ∈ f) ∧ C v
    | some (.pointer (some ad)), some true => exRow oa fun cs => (match m with
      | none => LoadsRow P t w ad cs
      | some (f, _) => cellsOf' P t = some cs.length ∧ ∀ i v, cs[i]? = some v → (ad.add i, v) ∈ f) ∧ C (.agg ⟨cs⟩)
    | _, _ => False
  | _ => pureV P o oa l C
def isLoad (o : Oper) : Bool :=
  match o.op with
  | .load _ _ => true
  | _ => false
def takeG (P : Program) (ops : Array Oper) (m : Hold) (o : Oper) (ga : GA) (l : Env) (w : World) (K : Env → Prop) : Prop :=
  match o.guard with
  | none => match ga.at l.p with
    | .p oa => takeV P m o oa l w fun v => K (put l o.dst v)
    | _ => False
  | some (j, want) => match slotOf ops j with
    | none => False
    | some d => match look l d with
      | some (.bool b) => match ga.at l.p with
        | .p oa => goT b want (takeV P m o oa l w fun v => K (put l o.dst v)) (K (put l o.dst undef))
        | .gs oa p1 p2 =>
          (b = true → goT true want (takeV P m o oa (onWay (keep l d (some (.bool true))) p1) w fun v => K (put (onWay (keep l d (some (.bool true))) p1) o.dst v)) (K (put (onWay (keep l d (some (.bool true))) p1) o.dst undef))) ∧
          (b = false → goT false want (takeV P m o oa (onWay (keep l d (some (.bool false))) p2) w fun v => K (put (onWay (keep l d (some (.bool false))) p2) o.dst v)) (K (put (onWay (keep l d (some (.bool false))) p2) o.dst undef)))
        | .on _ _ _ => False
        | .nx _ _ => False
      | some (.tuple _) => K (put l o.dst undef)
      | _ => False
def holdS (m : Hold) (i : Nat) (w' : World) (X : Prop) : Prop :=
  match m with
  | none => False
  | some (f, ns) => match memB ns i with
    | true => X
    | false => Kept w' f ∧ X
def mayTake (ops : Array Oper) (m : Hold) (L : List Bool) (i : Nat) : Bool :=
  readyB ops L i && (freeB ops L i && (match m, ops[i]? with
  | some (_, ns), some o => !isLoad o || ns.all fun k => reach ops i ops.toList.length k
  | _, _ => true))
def mayRun (ops : Array Oper) (L : List Bool) (fresh : Bool) (t : OT) : Bool :=
  match fresh with
  | true => readyL ops L == t.alts
  | false => true
def ordV (P : Program) (ops : Array Oper) (m : Hold) (K : Env → World → Prop) : OT → Bool → List Bool → Env → World → Prop
  | .done, false, _, _, _ => True
  | .done, true, L, l, w => match readyL ops L with
    | [] => K l w
    | _ :: _ => False
  | .take _ _ _, false, _, _, _ => False
  | .take i ga t, true, L, l, w => match mayTake ops m L i, ops[i]? with
    | true, some o => takeG P ops m o ga l w fun l' => ordV P ops m K t true (setB L i) l' w
    | _, _ => False
  | .run i ga t u, fr, L, l, w => match mayRun ops L fr (.run i ga t u), ops[i]? with
    | true, some o => match u with
      | .done => opG P ops o ga l w fun l' w' => holdS m i w' (ordV P ops m K t true (setB L i) l' w')
      | u => (opG P ops o ga l w fun l' w' => holdS m i w' (ordV P ops m K t true (setB L i) l' w')) ∧ ordV P ops m K u false L l w
    | _, _ => False
section
variable {P : Program} {ops : Array Oper} {m : Hold} {l : Env} {a : Act} {w w0 : World}
def InSight (m : Hold) (w0 : World) (w : World) : Prop :=
  match m with
  | none => w = w0
  | some (f, _) => Kept w f
theorem takeV_sound {o : Oper} {oa : OA} {C : Value → Prop} (hf : Fits l a) (h : takeV P m o oa l w0 C) :
    ∃ v, (∀ w, (if isLoad o then InSight m w0 w else True) → (execOp a.eval o).run P w = .ok (.value v) w) ∧ C v := by
  unfold takeV at h
  split at h
  · rename_i t x hop
    have hl : isLoad o = true := by simp [isLoad, hop]
    rw [hl]
    simp only [if_true]
    obtain ⟨dst, op, type, pos, after, guard⟩ := o
    simp only at hop
    subst hop
    split at h
    · rename_i ad hv ht
      obtain ⟨v, hcell, hc⟩ := exRes_out h
      refine ⟨v, fun w hw => ?_, hc⟩
      have hcell : w.cell? ad = some v := by
        unfold InSight at hw
        cases m with
        | none => subst hw; exact hcell
        | some p => exact Kept.at hw _ hcell
      simp [execOp, Instr.loadAt, hf.ev hv, Instr.sureAddr, run_loadVar_one ht hcell]
    · rename_i ad hv ht
      obtain ⟨cs, hrow, hc⟩ := exRow_out h
      refine ⟨.agg ⟨cs⟩, fun w hw => ?_, hc⟩
      have hrow : LoadsRow P t w ad cs := by
        unfold InSight at hw
        cases m with
        | none => subst hw; exact hrow
        | some p => exact ⟨hrow.1, fun i v hiv => Kept.at hw _ (hrow.2 i v hiv)⟩
      simp [execOp, Instr.loadAt, hf.ev hv, Instr.sureAddr, run_loadVar_many ht hrow]
    · exact h.elim
  · obtain ⟨v, hr, hc⟩ := pureV_sound hf h
    exact ⟨v, fun w _ => hr w, hc⟩
theorem takeV_world {p : List (Addr × Value) × List Nat} {o : Oper} {oa : OA} {l : Env} {C : Value → Prop} (w w0 : World) : takeV P (some p) o oa l w C = takeV P (some p) o oa l w0 C := by
  unfold takeV
  cases o.op <;> rfl
theorem takeG_world {p : List (Addr × Value) × List Nat} {o : Oper} {ga : GA} {l : Env} {K : Env → Prop} (w w0 : World) : takeG P ops (some p) o ga l w K = takeG P ops (some p) o ga l w0 K := by
  unfold takeG
  simp only [takeV_world w w0]
theorem takeG_sound {o : Oper} {ga : GA} {K : Env → Prop} (hf : Fits l a) (h : takeG P ops m o ga l w0 K) :
    ∃ v l', YieldsIf P ops (fun w => if isLoad o then InSight m w0 w else True) o v a ∧ Fits l' (a.put o.dst v) ∧ K l' := by
  unfold takeG at h
  have run : ∀ (l : Env) (oa : OA), Fits l a → Region.wanted o (yielded ops a.tmps) = true → (takeV P m o oa l w0 fun v => K (put l o.dst v)) →
      ∃ v l', YieldsIf P ops (fun w => if isLoad o then InSight m w0 w else True) o v a ∧ Fits l' (a.put o.dst v) ∧ K l' := fun l oa hf hw h => by
    obtain ⟨v, hr, hc⟩ := takeV_sound hf h
    exact ⟨v, _, .inl ⟨hw, hr⟩, hf.put _ _, hc⟩
  split at h
  · rename_i hg
    split at h
    · exact run l _ hf (by simp [Region.wanted, hg]) h
    · exact h.elim
  · rename_i j want hg
    split at h
    · exact h.elim
    · rename_i d hd
      split at h
      · rename_i b hb
        have hy := yielded_bool hf hd hb
        have fin : ∀ (l : Env) (oa : OA) (b want : Bool), Fits l a → o.guard = some (j, want) → yielded ops a.tmps j = some b →
            goT b want (takeV P m o oa l w0 fun v => K (put l o.dst v)) (K (put l o.dst undef)) →
            ∃ v l', YieldsIf P ops (fun w => if isLoad o then InSight m w0 w else True) o v a ∧ Fits l' (a.put o.dst v) ∧ K l' := fun l oa b want hf hg hy h => by
          cases b <;> cases want <;> simp only [goT] at h
          · exact run l oa hf (by simp [Region.wanted, hg, hy]) h
          · exact ⟨undef, _, .inr ⟨by simp [Region.wanted, hg, hy], rfl⟩, hf.put _ _, h⟩
          · exact ⟨undef, _, .inr ⟨by simp [Region.wanted, hg, hy], rfl⟩, hf.put _ _, h⟩
          · exact run l oa hf (by simp [Region.wanted, hg, hy]) h
        split at h
        · rename_i oa _; exact fin l oa b want hf hg hy h
        · rename_i oa _ _ _
          cases hb' : b
          · subst hb'; exact fin _ oa false want ((hf.keep_known hb).onWay _) hg hy (h.2 rfl)
          · subst hb'; exact fin _ oa true want ((hf.keep_known hb).onWay _) hg hy (h.1 rfl)
        · exact h.elim
        · exact h.elim
      · rename_i vs hvs
        have hy := yielded_none hf hd hvs
        exact ⟨undef, _, .inr ⟨by simp [Region.wanted, hg, hy], rfl⟩, hf.put _ _, h⟩
      · exact h.elim
def holdNs : Hold → List Nat
  | none => []
  | some (_, ns) => ns
theorem ordV_sound {is : List Nat} {Q' : Exit → Act → World → Prop} {a0 : Act} {K : Env → World → Prop} (hsel : noSelB ops.toList = true)
    (hq : ∀ c a w, ¬ Q' (.panic c) a w) (hQ : ∀ l' a' w', Frame is a0 a' → Fits l' a' → K l' w' → Q' .normal a' w')
    (hin : ∀ o ∈ ops.toList, ∀ x, o.dst = some x → x ∈ is) :
    ∀ (t : OT) (fuel : Nat) (L : List Bool) (l : Env) (a : Act) (w : World), Closed ops ⟨L⟩ → unl L ≤ fuel → Frame is a0 a → Fits l a →
      ((∀ k ∈ holdNs m, getB L k false = false) → InSight m w0 w) → (m = none → w = w0) →
      (ordV P ops m K t true L l w → wpAnyN P ops Q' (InSight m w0) (fun i => !memB (holdNs m) i) fuel ⟨L⟩ a w) ∧
      (ordV P ops m K t false L l w → ∀ i ∈ t.alts, ∀ fuel', fuel = fuel' + 1 → i ∈ Region.ready .any ops ⟨L⟩ →
        wpOp P ops Q' i (fun a' w' => ((!memB (holdNs m) i) = true → InSight m w0 w → InSight m w0 w') ∧ wpAnyN P ops Q' (InSight m w0) (fun i => !memB (holdNs m) i) fuel' ((⟨L⟩ : Array Bool).setIfInBounds i true) a' w') a w) := by
  have hsel' : ∀ (j : Nat) (o : Oper) cs b, ops[j]? = some o → o.op ≠ .select cs b := fun j o cs b ho e => by
    have := noSelB_spec hsel o (Array.mem_toList_iff.2 (Array.mem_of_getElem? ho))
    rw [e] at this; cases this
  intro t
  induction t with
  | done =>
    intro fuel L l a w hcl hfu hfr hf hS hm
    refine ⟨fun h => ?_, fun _ i hi => by simp [OT.alts] at hi⟩
    simp only [ordV] at h
    split at h
    · rename_i hr
      have hr' : Region.ready .any ops ⟨L⟩ = [] := List.eq_nil_iff_forall_not_mem.2 fun j hj => by rw [← mem_readyL, hr] at hj; cases hj
      cases fuel with
      | zero => exact ⟨hr', hQ l a w hfr hf h⟩
      | succ fuel => exact ⟨fun _ => hQ l a w hfr hf h, by rw [hr']; simp⟩
    · exact h.elim
  | take i ga t ih =>
    intro fuel L l a w hcl hfu hfr hf hS hm
    refine ⟨fun h => ?_, fun h => h.elim⟩
    simp only [ordV] at h
    split at h
    · rename_i o hmay ho
      simp only [mayTake, Bool.and_eq_true] at hmay
      obtain ⟨hr, hfree, hload⟩ := hmay
      have hr' := readyB_iff.1 hr
      have hun : getB L i true = false := by rw [← getB_eq]; exact (mem_ready.1 hr').1
      have hul := unl_set L i hun
      obtain ⟨fuel, rfl⟩ : ∃ f, fuel = f + 1 := ⟨fuel - 1, by omega⟩
      have hmm : takeG P ops m o ga l w0 (fun l' => ordV P ops m K t true (setB L i) l' w) := by
        cases hm' : m with
        | none => rw [hm hm', hm'] at h; rw [hm hm']; exact h
        | some p =>
          subst hm'
          rw [takeG_world w w0] at h; exact h
      obtain ⟨v, l', hy, hf', hk⟩ := takeG_sound hf hmm
      have hT : (if isLoad o then InSight m w0 w else True) := by
        cases hl : isLoad o
        · simp
        · simp only [if_true]
          refine hS fun k hk => ?_
          cases hm' : m with
          | none => rw [hm'] at hk; simp [holdNs] at hk
          | some p =>
            obtain ⟨f, ns⟩ := p
            rw [hm'] at hk hload
            simp only [ho, hl, Bool.not_true, Bool.false_or, List.all_eq_true] at hload
            have hrk := hload k hk
            cases hg : getB L k false with
            | false => rfl
            | true =>
              have := reach_afters hcl _ k hrk (fun o' ho' => hcl k o' ho' (by rw [getB_eq]; exact hg))
              rw [getD_false_of (mem_ready.1 hr').1] at this; cases this
      refine wpAnyN_first (F := ops.toList.length) ho hsel' (fun c a w h => absurd h (hq _ _ _)) ?_ fuel ⟨L⟩ a w hcl (freeB_spec hsel ho hfree) hr' hy hT ?_
      · intro j hj w1 w2 hN hT1
        cases hl : isLoad o
        · simp
        · rw [hl] at hT1
          simp only [if_true] at hT1 ⊢
          refine hN ?_ hT1
          rw [Bool.not_eq_true']
          cases hmb : memB (holdNs m) j
          · rfl
          · cases hm' : m with
            | none => rw [hm'] at hmb; simp [holdNs, memB] at hmb
            | some p =>
              obtain ⟨f, ns⟩ := p
              rw [hm'] at hmb hload
              simp only [ho, hl, Bool.not_true, Bool.false_or, List.all_eq_true] at hload
              rw [hload j (memB_iff.1 hmb)] at hj; cases hj
      · have hset := setB_eq L i
        rw [hset]
        refine (ih fuel (setB L i) l' _ w (by rw [← hset]; exact hcl.set hr') (by omega) (hfr.trans (Frame.put a o.dst v (hin o (Array.mem_toList_iff.2 (Array.mem_of_getElem? ho))))) hf' (fun hall => hS fun k hk => ?_) hm).1 hk
        have := hall k hk
        cases hg : getB L k false with
        | false => rfl
        | true =>
          rw [← getB_eq, ← hset] at this
          rw [getD_set_true (by rw [getB_eq]; exact hg)] at this; cases this
    · exact h.elim
  | run i ga t u ih ihu =>
    intro fuel L l a w hcl hfu hfr hf hS hm
    have part : ∀ o, ops[i]? = some o → (opG P ops o ga l w fun l' w' => holdS m i w' (ordV P ops m K t true (setB L i) l' w')) → i ∈ Region.ready .any ops ⟨L⟩ → ∀ fuel', fuel = fuel' + 1 →
        wpOp P ops Q' i (fun a' w' => ((!memB (holdNs m) i) = true → InSight m w0 w → InSight m w0 w') ∧ wpAnyN P ops Q' (InSight m w0) (fun i => !memB (holdNs m) i) fuel' ((⟨L⟩ : Array Bool).setIfInBounds i true) a' w') a w := by
      intro o ho h hr' fuel' hfu'
      have hun : getB L i true = false := by rw [← getB_eq]; exact (mem_ready.1 hr').1
      have hul := unl_set L i hun
      have h1 := opG_sound (Q := Q') hf h
      have key : ∀ a' w', StepTo (fun l' w' => holdS m i w' (ordV P ops m K t true (setB L i) l' w')) o a a' w' →
          ((!memB (holdNs m) i) = true → InSight m w0 w → InSight m w0 w') ∧ wpAnyN P ops Q' (InSight m w0) (fun i => !memB (holdNs m) i) fuel' ((⟨L⟩ : Array Bool).setIfInBounds i true) a' w' := by
        intro a' w' ⟨l', v, ha, hf', hk⟩
        cases hm' : m with
        | none => rw [hm'] at hk; exact hk.elim
        | some p =>
          obtain ⟨f, ns⟩ := p
          subst hm'
          have hset := setB_eq L i
          have hfr' : Frame is a0 a' := hfr.trans (ha ▸ Frame.put a o.dst v (hin o (Array.mem_toList_iff.2 (Array.mem_of_getElem? ho))))
          have hcl' : Closed ops ⟨setB L i⟩ := by rw [← hset]; exact hcl.set hr'
          have hback : (∀ k ∈ ns, getB (setB L i) k false = false) → ∀ k ∈ ns, getB L k false = false := fun hall k hk => by
            have := hall k hk
            cases hg : getB L k false with
            | false => rfl
            | true =>
              rw [← getB_eq, ← hset] at this
              rw [getD_set_true (by rw [getB_eq]; exact hg)] at this; cases this
          simp only [holdS] at hk
          simp only [holdNs, InSight]
          rw [hset]
          cases hmb : memB ns i
          · rw [hmb] at hk
            refine ⟨fun _ _ => hk.1, (ih fuel' (setB L i) l' a' w' hcl' (by omega) hfr' hf' (fun _ => hk.1) (fun e => by cases e)).1 hk.2⟩
          · rw [hmb] at hk
            refine ⟨fun e => by simp at e, (ih fuel' (setB L i) l' a' w' hcl' (by omega) hfr' hf' (fun hall => ?_) (fun e => by cases e)).1 hk⟩
            exfalso
            have := hall i (memB_iff.1 hmb)
            rw [getB_setB _ _ hun] at this; cases this
      unfold stepOk at h1
      unfold wpOp
      simp only [ho]
      split
      · rename_i hw
        rw [if_pos hw] at h1
        exact h1.imp (Oper.wp_mono key) id
      · rename_i hw
        rw [if_neg hw] at h1
        exact key _ _ h1
    have both : ∀ fr, ordV P ops m K (.run i ga t u) fr L l w → mayRun ops L fr (.run i ga t u) = true ∧ ∃ o, ops[i]? = some o ∧ (opG P ops o ga l w fun l' w' => holdS m i w' (ordV P ops m K t true (setB L i) l' w')) ∧ (u = .done ∨ ordV P ops m K u false L l w) := by
      intro fr h
      unfold ordV at h
      split at h
      · rename_i o hmay ho
        refine ⟨hmay, o, ho, ?_⟩
        split at h
        · exact ⟨h, .inl rfl⟩
        · exact ⟨h.1, .inr h.2⟩
      · exact h.elim
    have all : ∀ fr, ordV P ops m K (.run i ga t u) fr L l w → ∀ j ∈ (OT.run i ga t u).alts, ∀ fuel', fuel = fuel' + 1 → j ∈ Region.ready .any ops ⟨L⟩ →
        wpOp P ops Q' j (fun a' w' => ((!memB (holdNs m) j) = true → InSight m w0 w → InSight m w0 w') ∧ wpAnyN P ops Q' (InSight m w0) (fun i => !memB (holdNs m) i) fuel' ((⟨L⟩ : Array Bool).setIfInBounds j true) a' w') a w := by
      intro fr h j hj fuel' hfu' hr
      obtain ⟨_, o, ho, h1, h2⟩ := both fr h
      rcases List.mem_cons.1 hj with rfl | hj
      · exact part o ho h1 hr fuel' hfu'
      · rcases h2 with rfl | h2
        · simp [OT.alts] at hj
        · exact (ihu fuel L l a w hcl hfu hfr hf hS hm).2 h2 j hj fuel' hfu' hr
    refine ⟨fun h => ?_, fun h => all false h⟩
    obtain ⟨hmay, _⟩ := both true h
    simp only [mayRun, beq_iff_eq] at hmay
    have hmem : ∀ j, j ∈ Region.ready .any ops ⟨L⟩ → j ∈ (OT.run i ga t u).alts := fun j hj => by rw [← hmay]; exact mem_readyL.2 hj
    have hri : i ∈ Region.ready .any ops ⟨L⟩ := mem_readyL.1 (by rw [hmay]; simp [OT.alts])
    have hun : getB L i true = false := by rw [← getB_eq]; exact (mem_ready.1 hri).1
    have hul := unl_set L i hun
    obtain ⟨fuel, rfl⟩ : ∃ f, fuel = f + 1 := ⟨fuel - 1, by omega⟩
    exact ⟨fun h0 => (by rw [h0] at hri; cases hri), fun j hj => all true h j (hmem j hj) fuel rfl hj⟩
end
end Go.Vc
set_option linter.unusedVariables false
set_option linter.unusedSimpArgs false
namespace Go.Vc
inductive RA where
  | text (gas : List GA)
  | loads (t : OT)
  | held (ns : List Nat) (t : OT)
abbrev Slots := List (Nat × SH)
inductive Ann where
  | leaf
  | reg (r : RA)
  | seq (a b : Ann)
  /-- A seam: these slots' values go over it, and what is known of those. -/
  | cut (new : Slots) (live : List Nat) (a b : Ann)
  | cond (p1 p2 : Nat) (a b : Ann)
  | yes (a : Ann)
  | no (a : Ann)
  | block (a : Ann)
  | loop (new : Slots) (live : List Nat) (a : Ann)
  | scope (a : Ann)
  /-- On way 'p' the first, else the second. -/
  | on (p : Nat) (a b : Ann)
def Ann.at (p : Nat) : Ann → Ann
  | .on q a b => match Nat.beq q p with
    | true => a
    | false => b.at p
  | g => g
abbrev SHT : SH → Type → Type
  | .int _, X => Int → X
  | .bool, X => Bool → X
  | .str, X => List UInt8 → X
  | .slice, X => Option Addr → Nat → Nat → X
  | .ptr, X => Option Addr → X
  | .adr, X => Addr → X
  | .float, X => Nat → X
  | .any, X => Value → X
  | .nil, X => X
  | .agg, X => List Value → X
  | .ifp _, X => Addr → X
abbrev CurP : Slots → Type
  | [] => World → Prop
  | (_, s) :: r => SHT s (CurP r)
def goS (s : SH) (X : Type) (K : SHT s X) (v : Value) (C : X → Prop) : Prop :=
  match s, K, v with
  | .int k, K, .int k' n => if k = k' then C (K n) else False
  | .bool, K, .bool b => C (K b)
  | .str, K, .string s => C (K s.data.toList)
  | .slice, K, .slice p n c => C (K p n c)
  | .ptr, K, .pointer p => C (K p)
  | .adr, K, .pointer (some a) => C (K a)
  | .float, K, .float .f64 n => C (K n)
  | .any, K, v => C (K v)
  | .nil, K, .nilIface => C K
  | .agg, K, .agg cs => C (K cs.toList)
  | .ifp t, K, .iface t' (.pointer (some a)) => if t = t' then C (K a) else False
  | _, _, _ => False
def alS (s : SH) (X : Type) (K : SHT s X) (C : Value → X → Prop) : Prop :=
  match s, K with
  | .int k, K => ∀ n : Int, C (.int k n) (K n)
  | .bool, K => ∀ b : Bool, C (.bool b) (K b)
  | .str, K => ∀ s : List UInt8, C (.string (mkS s)) (K s)
  | .slice, K => ∀ (p : Option Addr) (n c : Nat), C (.slice p n c) (K p n c)
  | .ptr, K => ∀ p : Option Addr, C (.pointer p) (K p)
  | .adr, K => ∀ a : Addr, C (.pointer (some a)) (K a)
  | .float, K => ∀ n : Nat, C (.float .f64 n) (K n)
  | .any, K => ∀ v : Value, C v (K v)
  | .nil, K => C .nilIface K
  | .agg, K => ∀ cs : List Value, C (.agg ⟨cs⟩) (K cs)
  | .ifp t, K => ∀ a : Addr, C (.iface t (.pointer (some a))) (K a)
def mkSH (s : SH) (X : Type) (F : Value → X) : SHT s X :=
  match s with
  | .int k => fun n => F (.int k n)
  | .bool => fun b => F (.bool b)
  | .str => fun s => F (.string (mkS s))
  | .slice => fun p n c => F (.slice p n c)
  | .ptr => fun p => F (.pointer p)
  | .adr => fun a => F (.pointer (some a))
  | .float => fun n => F (.float .f64 n)
  | .any => fun v => F v
  | .nil => F .nilIface
  | .agg => fun cs => F (.agg ⟨cs⟩)
  | .ifp t => fun a => F (.iface t (.pointer (some a)))
theorem goS_alS {s : SH} {X : Type} {K : SHT s X} {v : Value} {C : X → Prop} {D : Value → X → Prop} (h : goS s X K v C) (k : alS s X K D) : ∃ x, C x ∧ D v x := by
  cases s
  case int k' =>
    cases v <;> simp only [goS] at h
    split at h
    · rename_i e; subst e; exact ⟨_, h, k _⟩
    · exact h.elim
  case bool => cases v <;> simp only [goS] at h; exact ⟨_, h, k _⟩
  case str => cases v <;> simp only [goS] at h; exact ⟨_, h, k _⟩
  case slice => cases v <;> simp only [goS] at h; exact ⟨_, h, k _ _ _⟩
  case ptr => cases v <;> simp only [goS] at h; exact ⟨_, h, k _⟩
  case adr =>
    cases v <;> simp only [goS] at h
    rename_i p
    cases p <;> simp only [goS] at h
    exact ⟨_, h, k _⟩
  case float =>
    cases v <;> simp only [goS] at h
    rename_i fk n
    cases fk <;> simp only [goS] at h
    exact ⟨_, h, k _⟩
  case any => simp only [goS] at h; exact ⟨_, h, k _⟩
  case nil => cases v <;> simp only [goS] at h; exact ⟨_, h, k⟩
  case agg => cases v <;> simp only [goS] at h; exact ⟨_, h, k _⟩
  case ifp t =>
    cases v <;> try (simp only [goS] at h; done)
    rename_i t' u
    cases u <;> try (simp only [goS] at h; done)
    rename_i p
    cases p <;> simp only [goS] at h
    split at h
    · rename_i e; subst e; exact ⟨_, h, k _⟩
    · exact h.elim
theorem alS_mk {s : SH} {X : Type} {F : Value → X} {D : Value → X → Prop} (h : ∀ v, D v (F v)) : alS s X (mkSH s X F) D := by
  cases s <;> simp only [alS, mkSH] <;> intros <;> exact h _
def toSeam : (new : Slots) → CurP new → Env → World → Prop
  | [], K, _, w => K w
  | (i, s) :: r, K, l, w => match look l i with
    | some v => goS s (CurP r) K v fun K' => toSeam r K' l w
    | none => False
def fromSeam : (new : Slots) → CurP new → Env → (Env → World → Prop → Prop) → Prop
  | [], K, l, X => ∀ w, X l w (K w)
  | (i, s) :: r, K, l, X => alS s (CurP r) K fun v K' => fromSeam r K' (keep l i (some v)) X
def mkSeam : (new : Slots) → Env → (Env → World → Prop) → CurP new
  | [], l, X => X l
  | (i, s) :: r, l, X => mkSH s (CurP r) fun v => mkSeam r (keep l i (some v)) X
def liveL (l : Env) : List Nat → List (Nat × Option Value)
  | [] => []
  | i :: r => (i, look l i) :: liveL l r
def liveE (l : Env) (live : List Nat) : Env := ⟨l.n, liveL l live, 0⟩
def noneOf (ws : List Nat) : List Nat → Bool
  | [] => true
  | i :: r => !memB ws i && noneOf ws r
def writes : Code → List Nat
  | .region _ ops _ => dsts ops.toList
  | .seq a b => writes a ++ writes b
  | .cond _ a b => writes a ++ writes b
  | .block _ a => writes a
  | .loop a => writes a
  | .scope a => writes a
  | _ => []
def onNormal (X : Env → World → Prop) (R : Exit → Env → World → Prop) : Exit → Env → World → Prop
  | .normal, l, w => X l w
  | e, l, w => R e l w
def onBlock (id : Nat) (R : Exit → Env → World → Prop) : Exit → Env → World → Prop
  | .exit i, l, w => match Nat.beq i id with
    | true => R .normal l w
    | false => R (.exit i) l w
  | e, l, w => R e l w
def onScope (R : Exit → Env → World → Prop) : Exit → Env → World → Prop
  | .goto _, _, _ => False
  | e, l, w => R e l w
def vc (P : Program) : Code → Ann → Env → World → (Exit → Env → World → Prop) → Prop
  | .skip, _, l, w, R => R .normal l w
  | .label _, _, l, w, R => R .normal l w
  | .exit id, _, l, w, R => R (.exit id) l w
  | .ret, _, l, w, R => R .ret l w
  | .region _ ops draw, ann, l, w, R => match draw, ann.at l.p with
    | false, .reg (.text gas) => opsV P ops ops.toList gas l w fun l' w' => R .normal l' w'
    | true, .reg (.loads t) => match noSelB ops.toList with
      | true => ordV P ops none (fun l' w' => R .normal l' w') t true (List.replicate ops.toList.length false) l w.drew
      | false => False
    | true, .reg (.held ns t) => match noSelB ops.toList with
      | true => ∃ f : List (Addr × Value), Kept w f ∧ ordV P ops (some (f, ns)) (fun l' w' => R .normal l' w') t true (List.replicate ops.toList.length false) l w.drew
      | false => False
    | _, _ => False
  | .seq a b, ann, l, w, R => match ann.at l.p with
    | .seq x y => vc P a x l w (onNormal (fun l' w' => vc P b y l' w' R) R)
    | .cut new live x y => match noneOf (writes a) live with
      | true => ∀ K : CurP new, fromSeam new K (liveE l live) (fun l' w' k => vc P b y l' w' R → k) → vc P a x l w (onNormal (fun l' w' => toSeam new K l' w') R)
      | false => False
    | _ => False
  | .cond c a b, ann, l, w, R => match ev l c, ann.at l.p with
    | some (.bool t), .cond p1 p2 x y => (t = true → vc P a x (onWay l p1) w R) ∧ (t = false → vc P b y (onWay l p2) w R)
    | some (.bool true), .yes x => vc P a x l w R
    | some (.bool false), .no y => vc P b y l w R
    | _, _ => False
  | .block id a, ann, l, w, R => match ann.at l.p with
    | .block x => vc P a x l w (onBlock id R)
    | _ => False
  | .loop a, ann, l, w, R => match ann.at l.p with
    | .loop new live x => match noneOf (writes a) live with
      | true => ∃ I : Nat → CurP new, (∃ n, toSeam new (I n) l w) ∧ ∀ n, fromSeam new (I n) (liveE l live) fun l' w' k => k → vc P a x l' w' (onNormal (fun l'' w'' => ∃ n', n' < n ∧ toSeam new (I n') l'' w'') R)
      | false => False
    | _ => False
  | .scope a, ann, l, w, R => match ann.at l.p with
    | .scope x => vc P a x l w (onScope R)
    | _ => False
  | _, _, _, _, _ => False
section
variable {P : Program} {l : Env} {a : Act} {w : World} {R : Exit → Env → World → Prop}
theorem Fits.keepV (hf : Fits l a) {i : Nat} {v : Value} (h : i < l.n ∧ a.tmps.getD i undef = v) : Fits (keep l i (some v)) a := by
  refine ⟨by rw [keep_n]; exact hf.size, fun j u hu => ?_, hf.defers⟩
  rw [keep_n]
  by_cases e : i = j
  · subst e
    rw [look_keep_same _ _ _ h.1] at hu
    cases hu; exact h
  · rw [look_keep_other _ _ _ _ e] at hu
    exact hf.val j u hu
theorem noneOf_spec {ws : List Nat} : ∀ {live : List Nat}, noneOf ws live = true → ∀ i ∈ live, i ∉ ws
  | [], _, i, hi => by cases hi
  | j :: r, h, i, hi => by
    simp only [noneOf, Bool.and_eq_true, Bool.not_eq_true'] at h
    rcases List.mem_cons.1 hi with rfl | hi
    · intro hm; rw [memB_iff.2 hm] at h; cases h.1
    · exact noneOf_spec h.2 i hi
theorem look_live {live : List Nat} {i : Nat} {v : Value} : look (liveE l live) i = some v → i ∈ live ∧ look l i = some v := by
  unfold liveE look
  simp only
  induction live with
  | nil => intro h; simp [liveL, lookL] at h
  | cons j r ih =>
    intro h
    simp only [liveL, lookL] at h
    split at h
    · rename_i hb
      have := Nat.eq_of_beq_eq_true hb
      subst this
      exact ⟨by simp, h⟩
    · exact ⟨List.mem_cons_of_mem _ (ih h).1, (ih h).2⟩
theorem Fits.live (hf : Fits l a) {a' : Act} {ws live : List Nat} (hfr : Frame ws a a') (hd : a'.defers = []) (hn : noneOf ws live = true) : Fits (liveE l live) a' := by
  refine ⟨by rw [hfr.1]; exact hf.size, fun i v hv => ?_, hd⟩
  obtain ⟨h1, h2⟩ := look_live hv
  obtain ⟨h3, h4⟩ := hf.val i v h2
  exact ⟨h3, by rw [hfr.2 i (noneOf_spec hn i h1)]; exact h4⟩
theorem seam : ∀ {new : Slots} {K : CurP new} {l0 l' : Env} {a' : Act} {w' : World} {X : Env → World → Prop → Prop}, Fits l0 a' → Fits l' a' →
    toSeam new K l' w' → fromSeam new K l0 X → ∃ l'' k, Fits l'' a' ∧ k ∧ X l'' w' k
  | [], K, l0, l', a', w', X, h0, h', ht, hfm => ⟨l0, K w', h0, ht, hfm w'⟩
  | (i, s) :: r, K, l0, l', a', w', X, h0, h', ht, hfm => by
    simp only [toSeam] at ht
    split at ht
    · rename_i v hv
      obtain ⟨K', h1, h2⟩ := goS_alS ht hfm
      have hval := h'.val i v hv
      exact seam (h0.keepV ⟨by rw [← h0.size, h'.size]; exact hval.1, hval.2⟩) h' h1 h2
    · exact ht.elim
theorem seam_mk : ∀ {new : Slots} {l0 : Env} {X : Env → World → Prop}, fromSeam new (mkSeam new l0 X) l0 (fun l' w' k => k ↔ X l' w')
  | [], l0, X => fun w => Iff.rfl
  | (i, s) :: r, l0, X => alS_mk fun v => seam_mk
theorem fromSeam_mono {X Y : Env → World → Prop → Prop} (h : ∀ l w k, X l w k → Y l w k) : ∀ {new : Slots} {K : CurP new} {l : Env}, fromSeam new K l X → fromSeam new K l Y
  | [], K, l, hx => fun w => h _ _ _ (hx w)
  | (i, s) :: r, K, l, hx => by
    simp only [fromSeam] at hx ⊢
    cases s <;> simp only [alS] at hx ⊢ <;> first | (intro v; exact fromSeam_mono h (hx v)) | exact fromSeam_mono h hx | (intro p n c; exact fromSeam_mono h (hx p n c))
theorem Ends.mono {is js : List Nat} {a b : Act} {R : Exit → Env → World → Prop} {e : Exit} {a' : Act} {w' : World} (hfr : Frame js a b) (hi : ∀ i ∈ is, i ∈ js) (h : Ends is b R e a' w') : Ends js a R e a' w' :=
  ⟨hfr.trans (h.1.mono hi), h.2⟩
theorem least {p : Nat → Prop} (h : ∃ n, p n) : ∃ n, p n ∧ ∀ m, p m → n ≤ m := by
  obtain ⟨n, hn⟩ := h
  induction n using Nat.strongRecOn with
  | _ n ih =>
    by_cases hx : ∃ m, m < n ∧ p m
    · obtain ⟨m, hm, hp⟩ := hx
      exact ih m hm hp
    · exact ⟨n, hn, fun m hp => Nat.le_of_not_lt fun hlt => hx ⟨m, hlt, hp⟩⟩
open Classical in
theorem wp_loop_least {c : Code} {Q : Exit → Act → World → Prop} (J : Act → World → Nat → Prop) (h0 : ∃ n, J a w n)
    (round : ∀ a w n, J a w n → c.wp P (Exit.then (fun a' w' => ∃ n', n' < n ∧ J a' w' n') Q) a w) : (Code.loop c).wp P Q a w := by
  let μ : Act → World → Nat := fun a w => if h : ∃ n, J a w n then Classical.choose (least h) else 0
  have hμ : ∀ a w, (∃ n, J a w n) → J a w (μ a w) ∧ ∀ m, J a w m → μ a w ≤ m := fun a w h => by
    simp only [μ, dif_pos h]
    exact Classical.choose_spec (least h)
  refine wp_loop (fun a w => ∃ n, J a w n) μ h0 fun a w hI => ?_
  refine wp_mono (round a w (μ a w) (hμ a w hI).1) fun e a' w' hq => ?_
  cases e with
  | normal =>
    obtain ⟨n', hlt, hj⟩ := hq
    exact ⟨⟨n', hj⟩, Nat.lt_of_le_of_lt ((hμ a' w' ⟨n', hj⟩).2 n' hj) hlt⟩
  | _ => exact hq
theorem vc_sound (hm : P.follows .mixedOrders = true) : ∀ (c : Code) (ann : Ann) (l : Env) (a : Act) (w : World) (R : Exit → Env → World → Prop), Fits l a → vc P c ann l w R → c.wp P (Ends (writes c) a R) a w := by
  intro c
  induction c with
  | skip => intro ann l a w R hf h; exact wp_skip ⟨Frame.refl _ _, l, hf, h⟩
  | label n => intro ann l a w R hf h; exact wp_label ⟨Frame.refl _ _, l, hf, h⟩
  | exit id => intro ann l a w R hf h; exact wp_exit ⟨Frame.refl _ _, l, hf, h⟩
  | ret => intro ann l a w R hf h; exact wp_ret ⟨Frame.refl _ _, l, hf, h⟩
  | region id ops draw =>
    intro ann l a w R hf h
    have hdst : ∀ o ∈ ops.toList, ∀ x, o.dst = some x → x ∈ dsts ops.toList := fun o ho x hx => mem_dsts _ o ho x hx
    have hdraw : ∀ (m : Hold) (t : OT), noSelB ops.toList = true → InSight m w.drew w.drew → ordV P ops m (fun l' w' => R .normal l' w') t true (List.replicate ops.toList.length false) l w.drew →
        (Code.region id ops true).wp P (Ends (writes (.region id ops true)) a R) a w := by
      intro m t hns hsi h
      let Q0 : Exit → Act → World → Prop := fun e a' w' => match e with
        | .normal => Ends (dsts ops.toList) a R .normal a' w'
        | _ => False
      have hw : (Code.region id ops true).wp P Q0 a w := by
        refine wp_region_any hm (wpAny_of_N (S := InSight m w.drew) (N := fun i => !memB (holdNs m) i) _ _ _ _ ?_)
        have hrep : Array.replicate ops.size false = ⟨List.replicate ops.toList.length false⟩ := by
          apply Array.ext'; simp
        rw [hrep]
        refine (ordV_sound (w0 := w.drew) hns (fun c a w h => h) (fun l' a' w' hfr hf' hk => ⟨hfr, l', hf', hk⟩) hdst t ops.size _ l a w.drew ?_ ?_ (Frame.refl _ _) hf (fun _ => hsi) (fun _ => rfl)).1 h
        · intro j o ho hj
          exfalso
          rw [getB_eq] at hj
          have : ∀ (n j : Nat), getB (List.replicate n false) j false = false := by
            intro n
            induction n with
            | zero => intro j; rfl
            | succ n ih => intro j; cases j with
              | zero => rfl
              | succ j => exact ih j
          rw [this] at hj; cases hj
        · rw [unl_rep]; simp
      exact wp_mono hw fun e a' w' h => by cases e <;> first | exact h | exact h.elim
    simp only [vc] at h
    split at h
    · rename_i gas _
      exact wp_region_list (opsV_sound (K := fun l' w' => R .normal l' w') (fun l' a' w' hfr hf' hk => ⟨hfr, l', hf', hk⟩) ops.toList gas l a w hdst (Frame.refl _ _) hf h)
    · rename_i t _
      split at h
      · rename_i hns; exact hdraw none t hns rfl h
      · exact h.elim
    · rename_i ns t _
      split at h
      · rename_i hns
        obtain ⟨f, hk, h⟩ := h
        have hk' : Kept w.drew f := by
          clear h
          induction f with
          | nil => trivial
          | cons p f ih =>
            cases f with
            | nil => simpa [Kept] using hk
            | cons q f => exact ⟨by simpa using hk.1, ih hk.2⟩
        exact hdraw (some (f, ns)) t hns hk' h
      · exact h.elim
    · exact h.elim
  | seq c d ihc ihd =>
    intro ann l a w R hf h
    have hl : ∀ i, i ∈ writes c → i ∈ writes (.seq c d) := fun i hi => List.mem_append_left _ hi
    have hr : ∀ i, i ∈ writes d → i ∈ writes (.seq c d) := fun i hi => List.mem_append_right _ hi
    simp only [vc] at h
    split at h
    · rename_i x y _
      refine wp_seq (wp_mono (ihc x l a w _ hf h) fun e a' w' ⟨hfr, l', hf', hk⟩ => ?_)
      cases e with
      | normal => exact wp_mono (ihd y l' a' w' R hf' hk) fun e a2 w2 h2 => h2.mono (hfr.mono hl) hr
      | _ => exact ⟨hfr.mono hl, l', hf', hk⟩
    · rename_i new live x y _
      split at h
      · rename_i hn
        have h := h (mkSeam new (liveE l live) fun l' w' => vc P d y l' w' R) (fromSeam_mono (fun l w k hk => hk.2) seam_mk)
        refine wp_seq (wp_mono (ihc x l a w _ hf h) fun e a' w' ⟨hfr, l', hf', hk⟩ => ?_)
        cases e with
        | normal =>
          obtain ⟨l'', k, hf'', hk', hx⟩ := seam (hf.live hfr hf'.defers hn) hf' hk seam_mk
          exact wp_mono (ihd y l'' a' w' R hf'' (hx.1 hk')) fun e a2 w2 h2 => h2.mono (hfr.mono hl) hr
        | _ => exact ⟨hfr.mono hl, l', hf', hk⟩
      · exact h.elim
    · exact h.elim
  | cond c t e iht ihe =>
    intro ann l a w R hf h
    have hl : ∀ i, i ∈ writes t → i ∈ writes (.cond c t e) := fun i hi => List.mem_append_left _ hi
    have hr : ∀ i, i ∈ writes e → i ∈ writes (.cond c t e) := fun i hi => List.mem_append_right _ hi
    simp only [vc] at h
    split at h
    · rename_i b p1 p2 x y hc _
      refine wp_cond_split (hf.ev hc) (fun ht => ?_) (fun ht => ?_)
      · exact wp_mono (iht x _ a w R (hf.onWay _) (h.1 ht)) fun e a2 w2 h2 => h2.mono (Frame.refl _ _) hl
      · exact wp_mono (ihe y _ a w R (hf.onWay _) (h.2 ht)) fun e a2 w2 h2 => h2.mono (Frame.refl _ _) hr
    · rename_i x hc _
      exact wp_cond_true (hf.ev hc) (wp_mono (iht x l a w R hf h) fun e a2 w2 h2 => h2.mono (Frame.refl _ _) hl)
    · rename_i y hc _
      exact wp_cond_false (hf.ev hc) (wp_mono (ihe y l a w R hf h) fun e a2 w2 h2 => h2.mono (Frame.refl _ _) hr)
    · exact h.elim
  | block id c ih =>
    intro ann l a w R hf h
    simp only [vc] at h
    split at h
    case h_2 => exact h.elim
    rename_i x _
    refine wp_block (wp_mono (ih x l a w _ hf h) fun e a' w' ⟨hfr, l', hf', hk⟩ => ?_)
    cases e with
    | exit i =>
      simp only [onBlock] at hk
      simp only [Exit.inBlock]
      split at hk
      · rename_i hb
        rw [if_pos (Nat.eq_of_beq_eq_true hb)]
        exact ⟨hfr, l', hf', hk⟩
      · rename_i hb
        rw [if_neg (fun e => by subst e; rw [Nat.beq_refl] at hb; cases hb)]
        exact ⟨hfr, l', hf', hk⟩
    | _ => exact ⟨hfr, l', hf', hk⟩
  | loop c ih =>
    intro ann l a w R hf h
    simp only [vc] at h
    split at h
    case h_2 => exact h.elim
    rename_i new live x _
    split at h
    · rename_i hn
      obtain ⟨I, ⟨n0, h0⟩, hstep⟩ := h
      let J : Act → World → Nat → Prop := fun a' w' n => Frame (writes c) a a' ∧ ∃ l', Fits l' a' ∧ toSeam new (I n) l' w'
      refine wp_loop_least J ⟨n0, Frame.refl _ _, l, hf, h0⟩ fun a1 w1 n ⟨hfr, l1, hf1, ht⟩ => ?_
      obtain ⟨l2, k, hf2, hk, hx⟩ := seam (hf.live hfr hf1.defers hn) hf1 ht (hstep n)
      refine wp_mono (ih x l2 a1 w1 _ hf2 (hx hk)) fun e a' w' ⟨hfr', l', hf', hk'⟩ => ?_
      cases e with
      | normal =>
        obtain ⟨n', hlt, ht'⟩ := hk'
        exact ⟨n', hlt, hfr.trans hfr', l', hf', ht'⟩
      | _ => exact ⟨hfr.trans hfr', l', hf', hk'⟩
    · exact h.elim
  | scope c ih =>
    intro ann l a w R hf h
    simp only [vc] at h
    split at h
    case h_2 => exact h.elim
    rename_i x _
    refine wp_scope_straight (wp_mono (ih x l a w _ hf h) fun e a' w' ⟨hfr, l', hf', hk⟩ => ?_)
    cases e with
    | goto n => exact hk.elim
    | _ => exact ⟨hfr, l', hf', hk⟩
  | rangeFunc f ps as b _ _ => intro ann l a w R hf h; simp only [vc] at h
  | goto n => intro ann l a w R hf h; simp only [vc] at h
  | refuse s => intro ann l a w R hf h; simp only [vc] at h
def resV (P : Program) : List ResultVar → Env → World → (List Value → Prop) → Prop
  | [], _, _, C => C []
  | .tmp t :: r, l, w, C => match look l t with
    | some v => resV P r l w fun vs => C (v :: vs)
    | none => False
  | .cell t ty :: r, l, w, C => match look l t, isAgg' P ty with
    | some (.pointer (some ad)), some false => ∃ v : Value, w.cell? ad = some v ∧ resV P r l w fun vs => C (v :: vs)
    | some (.pointer (some ad)), some true => ∃ cs : List Value, LoadsRow P ty w ad cs ∧ resV P r l w fun vs => C (.agg ⟨cs⟩ :: vs)
    | _, _ => False
def tupV : List Value → Value
  | [v] => v
  | vs => .tuple ⟨vs⟩
def retS (P : Program) (rs : List ResultVar) (R : Value → World → Prop) : Exit → Env → World → Prop
  | .normal, l, w => resV P rs l w fun vs => R (tupV vs) w
  | .ret, l, w => resV P rs l w fun vs => R (tupV vs) w
  | _, _, _ => False
def argsE : Nat → List Value → List (Nat × Option Value)
  | _, [] => []
  | i, v :: r => (i, some v) :: argsE (i + 1) r
def vcFn (P : Program) (fn : Func) (ann : Ann) (args : List Value) (w : World) (R : Value → World → Prop) : Prop :=
  match fn.body with
  | some c => match Nat.ble args.length fn.ntmps with
    | true => vc P c ann ⟨fn.ntmps, argsE 0 args, 0⟩ w (retS P fn.results.toList R)
    | false => False
  | none => False
theorem run_asAddr_some {ad : Addr} : (asAddr (.pointer (some ad))).run P w = .ok ad w := rfl
theorem resV_sound : ∀ {rs : List ResultVar} {C : List Value → Prop}, Fits l a → resV P rs l w C →
    ∃ vs, (rs.mapM (fun | .tmp t => pure (a.tmps.getD t undef) | .cell x t => do loadVar t (← asAddr (a.tmps.getD x undef)) : ResultVar → Sem Value)).run P w = .ok vs w ∧ C vs
  | [], C, hf, h => ⟨[], rfl, h⟩
  | .tmp t :: r, C, hf, h => by
    simp only [resV] at h
    split at h
    · rename_i v hv
      obtain ⟨vs, h1, h2⟩ := resV_sound hf h
      refine ⟨v :: vs, ?_, h2⟩
      rw [List.mapM_cons]
      simp only [Sem.run_bind, Sem.run_pure, Result.andThen_ok, h1, (hf.val t v hv).2]
    · exact h.elim
  | .cell t ty :: r, C, hf, h => by
    simp only [resV] at h
    split at h
    · rename_i ad hv ht
      obtain ⟨v, hc, h⟩ := h
      obtain ⟨vs, h1, h2⟩ := resV_sound hf h
      refine ⟨v :: vs, ?_, h2⟩
      rw [List.mapM_cons]
      simp only [Sem.run_bind, Sem.run_pure, Result.andThen_ok, h1, (hf.val t _ hv).2, run_asAddr_some, run_loadVar_one ht hc]
    · rename_i ad hv ht
      obtain ⟨cs, hc, h⟩ := h
      obtain ⟨vs, h1, h2⟩ := resV_sound hf h
      refine ⟨.agg ⟨cs⟩ :: vs, ?_, h2⟩
      rw [List.mapM_cons]
      simp only [Sem.run_bind, Sem.run_pure, Result.andThen_ok, h1, (hf.val t _ hv).2, run_asAddr_some, run_loadVar_many ht hc]
    · exact h.elim
theorem argsE_spec : ∀ (args : List Value) (k i : Nat) (v : Value), lookL (argsE k args) i = some v → k ≤ i ∧ args[i - k]? = some v
  | [], k, i, v, h => by simp [argsE, lookL] at h
  | x :: r, k, i, v, h => by
    simp only [argsE, lookL] at h
    split at h
    · rename_i hb
      have := Nat.eq_of_beq_eq_true hb
      subst this
      simpa using h
    · obtain ⟨h1, h2⟩ := argsE_spec r (k + 1) i v h
      refine ⟨by omega, ?_⟩
      have : i - k = (i - (k + 1)) + 1 := by omega
      rw [this]; simpa using h2
theorem vc_calls (hm : P.follows .mixedOrders = true) {f : FuncId} {fn : Func} {ann : Ann} {args : List Value} {Rr : Value → World → Prop} (hf : P.funcs[f]? = some fn)
    (h : vcFn P fn ann args w Rr) : Calls P f ⟨args⟩ w (fun e w' => ∃ v, e = .returned v ∧ Rr v w') := by
  unfold vcFn at h
  split at h
  · rename_i c hb
    split at h
    · rename_i hle
      have hle := Nat.le_of_ble_eq_true hle
      refine calls_of_wp hf hb ?_
      have hfit : Fits ⟨fn.ntmps, argsE 0 args, 0⟩ { tmps := (⟨args⟩ : Array Value) ++ Array.replicate (fn.ntmps - (⟨args⟩ : Array Value).size) undef, defers := [] } := by
        refine ⟨?_, fun i v hv => ?_, rfl⟩
        · simp only [Array.size_append, Array.size_replicate, List.size_toArray]; omega
        · obtain ⟨_, h2⟩ := argsE_spec args 0 i v hv
          have hlt := (List.getElem?_eq_some_iff.1 h2).1
          simp only [Nat.sub_zero] at hlt h2
          refine ⟨by simp only; omega, ?_⟩
          simp only [Array.getD_eq_getD_getElem?]
          rw [Array.getElem?_append_left (by simpa using hlt)]
          simp [h2]
      refine wp_mono (vc_sound hm c ann _ _ w _ hfit h) fun e a' w' ⟨hfr, l', hf', hk⟩ => ?_
      have fin : resV P fn.results.toList l' w' (fun vs => Rr (tupV vs) w') → a'.defers = [] ∧ ∃ v, (results fn a'.tmps).run P w' = .ok v w' ∧ (∃ u, Ending.returned v = .returned u ∧ Rr u w') := fun hk => by
        obtain ⟨vs, h1, h2⟩ := resV_sound hf' hk
        refine ⟨hf'.defers, tupV vs, ?_, _, rfl, h2⟩
        unfold results
        rw [Array.mapM_eq_mapM_toList]
        simp only [Sem.run_bind, Sem.run_map, Sem.run_pure, Result.andThen_ok]
        have h1' := h1
        refine (congrArg (fun r => (r.andThen fun a w' => Result.ok a.toArray w').andThen fun a w' => Result.ok (if h : a.size = 1 then a[0] else Value.tuple a) w') (Eq.trans ?_ h1')).trans ?_
        · rfl
        · simp only [Result.andThen_ok]
          congr 1
          match vs with
          | [] => rfl
          | [v] => rfl
          | v :: u :: r => simp [tupV]
      cases e with
      | normal => exact fin hk
      | ret => exact fin hk
      | _ => exact hk.elim
    · exact h.elim
  · exact h.elim
end
abbrev Ptr := Option Addr
abbrev Bs := List UInt8
abbrev RR := Value → World → Prop
abbrev GA.q : GA := .p .n
abbrev GA.s (l : List SH) : GA := .p (.sh l)
abbrev Ann.z : Ann := .reg (.text [])
abbrev Ann.t (l : List GA) : Ann := .reg (.text l)
abbrev Ann.k (a b : Ann) : Ann := .seq a b
abbrev Ann.l : Ann := .leaf
abbrev Ann.zl : Ann := .seq (.reg (.text [])) .leaf
end Go.Vc
