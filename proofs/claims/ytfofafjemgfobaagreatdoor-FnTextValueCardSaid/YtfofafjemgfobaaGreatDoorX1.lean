/- A part of a proof. -/
import Derived.WalkKit
import Derived.Orders
import Derived.KernelRfl
import Derived.PlainAid
import Derived.Laws.Tables
import Derived.Laws.RangeString
import Derived.Lib.Strings
set_option linter.unusedVariables false
set_option linter.unusedSimpArgs false
namespace Go.Vc
structure Env where
  n : Nat
  l : List (Nat × Option Value)
  /-- On which way we are (a number of the annotation's; it says nothing of the values). -/
  p : Nat
def lookL : List (Nat × Option Value) → Nat → Option Value
  | [], _ => none
  | (j, v) :: r, i => match Nat.beq j i with
    | true => v
    | false => lookL r i
def look (e : Env) (i : Nat) : Option Value := lookL e.l i
def keep (e : Env) (i : Nat) (v : Option Value) : Env :=
  match Nat.blt i e.n with
  | true => ⟨e.n, (i, v) :: e.l, e.p⟩
  | false => e
def onWay (l : Env) (p : Nat) : Env := ⟨l.n, l.l, p⟩
def put (l : Env) (d : Option Nat) (v : Value) : Env :=
  match d with
  | none => l
  | some d => keep l d (some v)
structure Fits (l : Env) (a : Act) : Prop where
  size : a.tmps.size = l.n
  val : ∀ i v, look l i = some v → i < l.n ∧ a.tmps.getD i undef = v
  defers : a.defers = []
theorem Fits.onWay {l : Env} {a : Act} (h : Fits l a) (p : Nat) : Fits (onWay l p) a := ⟨h.size, h.val, h.defers⟩
theorem keep_n (l : Env) (i : Nat) (v : Option Value) : (keep l i v).n = l.n := by
  unfold keep; split <;> rfl
theorem look_keep_same (l : Env) (i : Nat) (u : Option Value) (h : i < l.n) : look (keep l i u) i = u := by
  have h : Nat.blt i l.n = true := by simp [Nat.blt_eq]; exact h
  simp [look, keep, h, lookL]
theorem look_keep_other (l : Env) (i j : Nat) (u : Option Value) (h : i ≠ j) : look (keep l i u) j = look l j := by
  unfold keep
  split
  · have : Nat.beq i j = false := by
      cases hb : Nat.beq i j
      · rfl
      · exact absurd (Nat.eq_of_beq_eq_true hb) h
    simp [look, lookL, this]
  · rfl
theorem look_keep_out (l : Env) (i : Nat) (u : Option Value) (h : ¬ i < l.n) : keep l i u = l := by
  have h : Nat.blt i l.n = false := by
    cases hb : Nat.blt i l.n
    · rfl
    · exact absurd (by simpa [Nat.blt_eq] using hb) h
  simp [keep, h]
theorem getD_put_same (a : Act) (d : Nat) (v : Value) (h : d < a.tmps.size) : (a.put (some d) v).tmps.getD d undef = v := by
  simp [Act.put, h]
theorem getD_put_other (a : Act) (d i : Nat) (v : Value) (h : d ≠ i) : (a.put (some d) v).tmps.getD i undef = a.tmps.getD i undef := by
  simp [Act.put, Array.getElem?_setIfInBounds_ne h]
theorem size_put (a : Act) (d : Option Nat) (v : Value) : (a.put d v).tmps.size = a.tmps.size := by
  cases d <;> simp [Act.put]
theorem defers_put (a : Act) (d : Option Nat) (v : Value) : (a.put d v).defers = a.defers := by
  cases d <;> simp [Act.put]
theorem Fits.put {l : Env} {a : Act} (h : Fits l a) (d : Option Nat) (v : Value) : Fits (put l d v) (a.put d v) := by
  cases d with
  | none => exact h
  | some d =>
    refine ⟨by rw [size_put, h.size]; simp [Vc.put, keep_n], fun i u hu => ?_, by rw [defers_put]; exact h.defers⟩
    simp only [Vc.put] at hu ⊢
    rw [keep_n]
    by_cases hlt : d < l.n
    · by_cases e : d = i
      · subst e
        rw [look_keep_same _ _ _ hlt] at hu
        rw [getD_put_same a d v (by rw [h.size]; exact hlt)]
        exact ⟨hlt, Option.some.inj hu⟩
      · rw [look_keep_other _ _ _ _ e] at hu
        rw [getD_put_other a d i v e]
        exact h.val i u hu
    · rw [look_keep_out _ _ _ hlt] at hu
      have hi := h.val i u hu
      rw [getD_put_other a d i v (by omega)]
      exact hi
def ev (l : Env) : Operand → Option Value
  | .tmp t => look l t
  | .const v => some v
  | .global g => some (.pointer (some ⟨g, 0, none⟩))
  | .func f => some (.func (.func f) #[] #[])
theorem Fits.ev {l : Env} {a : Act} (h : Fits l a) {x : Operand} {v : Value} (hv : Vc.ev l x = some v) : a.eval x = v := by
  cases x with
  | tmp t => exact (h.val t v hv).2
  | const u => exact Option.some.inj hv
  | global g => exact Option.some.inj hv
  | func f => exact Option.some.inj hv
def evs (l : Env) : List Operand → Option (List Value)
  | [] => some []
  | x :: xs => match ev l x, evs l xs with
    | some v, some vs => some (v :: vs)
    | _, _ => none
theorem Fits.evs {l : Env} {a : Act} (h : Fits l a) : ∀ {xs : List Operand} {vs : List Value}, Vc.evs l xs = some vs → xs.map a.eval = vs
  | [], vs, hv => by simp [Vc.evs] at hv; simp [hv]
  | x :: xs, vs, hv => by
    simp only [Vc.evs] at hv
    split at hv
    · rename_i v vs' h1 h2
      cases hv
      simp [h.ev h1, h.evs h2]
    · cases hv
inductive SH where
  | int (k : IntKind) | bool | str | slice | ptr | adr | float | any | nil | agg | ifp (t : TypeId)
inductive OA where
  | n | split | sh (l : List SH)
def OA.shs : OA → List SH
  | .sh l => l
  | _ => [.any]
def mkS (l : List UInt8) : ByteArray := ⟨⟨l⟩⟩
def exS : SH → (Value → Prop) → Prop
  | .int k, K => ∃ n : Int, K (.int k n)
  | .bool, K => ∃ b : Bool, K (.bool b)
  | .str, K => ∃ s : List UInt8, K (.string (mkS s))
  | .slice, K => ∃ (p : Option Addr) (n c : Nat), K (.slice p n c)
  | .ptr, K => ∃ p : Option Addr, K (.pointer p)
  | .adr, K => ∃ a : Addr, K (.pointer (some a))
  | .float, K => ∃ n : Nat, K (.float .f64 n)
  | .any, K => ∃ v : Value, K v
  | .nil, K => K .nilIface
  | .agg, K => ∃ cs : List Value, K (.agg ⟨cs⟩)
  | .ifp t, K => ∃ a : Addr, K (.iface t (.pointer (some a)))
def exL : List SH → (List Value → Prop) → Prop
  | [], K => K []
  | s :: ss, K => exS s fun v => exL ss fun vs => K (v :: vs)
def exRes : List SH → (Value → Prop) → Prop
  | [s], K => exS s K
  | ss, K => exL ss fun vs => K (.tuple ⟨vs⟩)
theorem exS_out {s : SH} {K : Value → Prop} (h : exS s K) : ∃ v, K v := by
  cases s <;> simp only [exS] at h
  case int => exact let ⟨n, h⟩ := h; ⟨_, h⟩
  case bool => exact let ⟨n, h⟩ := h; ⟨_, h⟩
  case str => exact let ⟨n, h⟩ := h; ⟨_, h⟩
  case slice => exact let ⟨p, n, c, h⟩ := h; ⟨_, h⟩
  case ptr => exact let ⟨n, h⟩ := h; ⟨_, h⟩
  case adr => exact let ⟨n, h⟩ := h; ⟨_, h⟩
  case float => exact let ⟨n, h⟩ := h; ⟨_, h⟩
  case any => exact h
  case nil => exact ⟨_, h⟩
  case agg => exact let ⟨n, h⟩ := h; ⟨_, h⟩
  case ifp => exact let ⟨n, h⟩ := h; ⟨_, h⟩
theorem exL_out : ∀ {ss : List SH} {K : List Value → Prop}, exL ss K → ∃ vs, K vs
  | [], K, h => ⟨_, h⟩
  | s :: ss, K, h => by
    obtain ⟨v, h⟩ := exS_out h
    obtain ⟨vs, h⟩ := exL_out h
    exact ⟨_, h⟩
theorem exRes_out {ss : List SH} {K : Value → Prop} (h : exRes ss K) : ∃ v, K v := by
  unfold exRes at h
  split at h
  · exact exS_out h
  · obtain ⟨vs, h⟩ := exL_out h
    exact ⟨_, h⟩
def exRow (oa : OA) (K : List Value → Prop) : Prop :=
  match oa with
  | .sh ss => exL ss K
  | _ => ∃ cs : List Value, K cs
theorem exRow_out {oa : OA} {K : List Value → Prop} (h : exRow oa K) : ∃ cs, K cs := by
  unfold exRow at h
  split at h
  · exact exL_out h
  · exact h
def does (P : Program) (s : Sem Value) (w : World) (ss : List SH) (C : Value → World → Prop) : Prop :=
  exRes ss fun v => ∃ w', s.run P w = .ok v w' ∧ C v w'
def intBin (op : BinOp) (k : IntKind) (a b : Int) (C : Value → Prop) : Prop :=
  match op with
  | .add => ∃ r : Int, k.wrap (a + b) = r ∧ C (.int k r)
  | .sub => ∃ r : Int, k.wrap (a - b) = r ∧ C (.int k r)
  | .mul => ∃ r : Int, k.wrap (a * b) = r ∧ C (.int k r)
  | .quo => b ≠ 0 ∧ ∃ r : Int, k.wrap (a.tdiv b) = r ∧ C (.int k r)
  | .rem => b ≠ 0 ∧ ∃ r : Int, a.tmod b = r ∧ C (.int k r)
  | .and => ∃ r : Int, bits .and k a b = r ∧ C (.int k r)
  | .or => ∃ r : Int, bits .or k a b = r ∧ C (.int k r)
  | .xor => ∃ r : Int, bits .xor k a b = r ∧ C (.int k r)
  | .andNot => ∃ r : Int, bits .andNot k a b = r ∧ C (.int k r)
  | .eql => C (.bool (decide (a = b)))
  | .neq => C (.bool (!decide (a = b)))
  | .lss => C (.bool (decide (a < b)))
  | .leq => C (.bool (decide (a ≤ b)))
  | .gtr => C (.bool (decide (b < a)))
  | .geq => C (.bool (decide (b ≤ a)))
  | _ => False
def shiftBin (op : BinOp) (k : IntKind) (a b : Int) (C : Value → Prop) : Prop :=
  match op with
  | .shl => 0 ≤ b ∧ ∃ r : Int, k.wrap (a * 2 ^ min b.toNat k.bits) = r ∧ C (.int k r)
  | .shr => 0 ≤ b ∧ ∃ r : Int, a.fdiv (2 ^ min b.toNat k.bits) = r ∧ C (.int k r)
  | _ => False
def strBin (op : BinOp) (a b : List UInt8) (C : Value → Prop) : Prop :=
  match op with
  | .add => a.length + b.length ≤ 9223372036854775807 ∧ C (.string (mkS (a ++ b)))
  | .eql => C (.bool (decide (a = b)))
  | .neq => C (.bool (!decide (a = b)))
  | _ => False
def boolBin (op : BinOp) (a b : Bool) (C : Value → Prop) : Prop :=
  match op with
  | .eql => C (.bool (a == b))
  | .neq => C (.bool (!(a == b)))
  | _ => False
def nilBin (op : BinOp) (isNil : Bool) (C : Value → Prop) : Prop :=
  match op with
  | .eql => C (.bool isNil)
  | .neq => C (.bool (!isNil))
  | _ => False
def floatBin (op : BinOp) (k : FloatKind) (a b : Nat) (C : Value → Prop) : Prop :=
  match op with
  | .eql => C (.bool (k.format.order a b == some .eq))
  | .neq => C (.bool (k.format.order a b != some .eq))
  | .lss => C (.bool (k.format.order a b == some .lt))
  | .gtr => C (.bool (k.format.order a b == some .gt))
  | _ => False
def isShift : BinOp → Bool
  | .shl => true
  | .shr => true
  | _ => false
def isConstOp : Operand → Bool
  | .const _ => true
  | _ => false
def binS (P : Program) (op : BinOp) (t : TypeId) (x y : Operand) (u v : Value) (C : Value → Prop) : Prop :=
  match u, v with
  | .int k a, .int k' b => bif isShift op then shiftBin op k a b C else (if k = k' then intBin op k a b C else False)
  | .string a, .string b => strBin op a.data.toList b.data.toList C
  | .bool a, .bool b => match P.underlying t with
    | some .bool => boolBin op a b C
    | _ => False
  | .slice p _ _, .slice none _ _ => match P.underlying t with
    | some (.slice _) => nilBin op p.isNone C
    | _ => False
  | .pointer p, .pointer none => match P.underlying t with
    | some (.pointer _) => nilBin op p.isNone C
    | _ => False
  | .iface _ _, .nilIface => match P.underlying t with
    | some (.interface _) => nilBin op false C
    | _ => False
  | .nilIface, .nilIface => match P.underlying t with
    | some (.interface _) => bif isConstOp y then nilBin op true C else False
    | _ => False
  | .float k a, .float k' b => if k = k' then floatBin op k a b C else False
  | _, _ => False
def fieldOff (P : Program) (t : TypeId) (f : Nat) : Option (Nat × TypeId) :=
  match P.underlying t with
  | some (.struct fs) => match fs[f]? with
    | some g => some (g.offset, g.type)
    | none => none
  | _ => none
def cellsOf' (P : Program) (t : TypeId) : Option Nat := (P.info? t).map (·.size)
def isAgg' (P : Program) (t : TypeId) : Option Bool :=
  match P.underlying t with
  | some (.struct _) => some true
  | some (.array _ _) => some true
  | some _ => some false
  | none => none
def zeros (P : Program) (t : TypeId) : Option (Array Value) :=
  match P.info? t with
  | some i => match i.zero with
    | some z => some z.cells
    | none => none
  | none => none
def LoadsRow (P : Program) (t : TypeId) (w : World) (a : Addr) (cs : List Value) : Prop :=
  cellsOf' P t = some cs.length ∧ ∀ i v, cs[i]? = some v → w.cell? (a.add i) = some v
def CanStore (w : World) (a : Addr) (v : Value) : Prop := (w.cell? a).isSome = true ∧ w.frozen? a = false ∧ v.oneCell' = true
def optBound (l : Env) : Option Operand → Option (Option Int)
  | none => some none
  | some x => match ev l x with
    | some (.int _ n) => some (some n)
    | _ => none
def strSlice (s : List UInt8) (lo hi : Option Int) (C : Value → Prop) : Prop :=
  match lo, hi with
  | none, none => C (.string (mkS s))
  | some i, none => (0 ≤ i ∧ i ≤ s.length) ∧ C (.string (mkS (s.drop i.toNat)))
  | none, some j => (0 ≤ j ∧ j ≤ s.length) ∧ C (.string (mkS (s.take j.toNat)))
  | some i, some j => (0 ≤ i ∧ i ≤ j ∧ j ≤ s.length) ∧ C (.string (mkS ((s.drop i.toNat).take (j.toNat - i.toNat))))
def slAddr (p : Option Addr) (cap l size : Nat) : Option Addr := if cap = l then p else p.map (·.add (l * size))
def slSlice (p : Option Addr) (n c size : Nat) (lo hi : Option Int) (C : Value → Prop) : Prop :=
  match lo, hi with
  | none, none => C (.slice p n c)
  | some i, none => (0 ≤ i ∧ i ≤ n ∧ (n : Int) ≤ c) ∧ C (.slice (slAddr p c i.toNat size) (n - i.toNat) (c - i.toNat))
  | none, some j => (0 ≤ j ∧ j ≤ c) ∧ C (.slice p j.toNat c)
  | some i, some j => (0 ≤ i ∧ i ≤ j ∧ j ≤ c) ∧ C (.slice (slAddr p c i.toNat size) (j.toNat - i.toNat) (c - i.toNat))
def enters (P : Program) (g : Nat) : Bool :=
  match P.funcs[g]? with
  | some fn => fn.body.isSome && !(fn.name == "runtime.NumGoroutine")
  | none => false
def isIface (P : Program) (t : TypeId) : Bool :=
  match P.underlying t with
  | some (.interface _) => true
  | none => true
  | _ => false
def builtS : List (Nat × Value) → Nat → Bool
  | [], _ => true
  | (i, v) :: r, k => i == k && v.oneCell' && builtS r (k + 1)
def evParts (l : Env) : List (Nat × Operand) → Option (List (Nat × Value))
  | [] => some []
  | (i, x) :: xs => match ev l x, evParts l xs with
    | some v, some vs => some ((i, v) :: vs)
    | _, _ => none
def argT (P : Program) (c : Call) : Option TypeDesc :=
  match c.argTypes[0]? with
  | some t => P.underlying t
  | none => none
def BuiltinOk (P : Program) (b : Builtin) (ats : Array TypeId) (type : TypeId) (cs : List Bool) (vs : List Value) (w : World) (v : Value) (w' : World) : Prop :=
  (builtin b ats type ⟨cs⟩ ⟨vs⟩).run P w = .ok (.value v) w'
def callS (P : Program) (c : Call) (type : TypeId) (l : Env) (w : World) (ss : List SH) (C : Value → World → Prop) : Prop :=
  match evs l c.args.toList with
  | none => False
  | some vs => match c.callee with
    | .value f => match ev l f with
      | some (.func (.func g) first captured) => match enters P g with
        | true => Calls P g ⟨first.toList ++ (vs ++ captured.toList)⟩ w fun e w' => exRes ss fun v => e = .returned v ∧ C v w'
        | false => exRes ss fun v => ∃ w', (callFunc g ⟨first.toList ++ (vs ++ captured.toList)⟩).run P w = .ok (.value v) w' ∧ C v w'
      | _ => False
    | .invoke r m => match ev l r with
      | some v => ∃ (g : Nat) (as : Array Value), (callMethod v m ⟨vs⟩).run P w = .ok (.enter g as) w ∧
          Calls P g as w fun e w' => exRes ss fun v => e = .returned v ∧ C v w'
      | none => False
    | .builtin b => exRes ss fun v => ∃ w', BuiltinOk P b c.argTypes type (c.args.toList.map isConstOp) vs w v w' ∧ C v w'
def purePick (a b : Option Value) (t : Bool) (oa : OA) (C : Value → Prop) : Prop :=
  match oa with
  | .split => (t = true → match a with | some u => C u | none => False) ∧ (t = false → match b with | some u => C u | none => False)
  | _ => match t with
    | true => match a with | some u => C u | none => False
    | false => match b with | some u => C u | none => False
def pureV (P : Program) (o : Oper) (oa : OA) (l : Env) (C : Value → Prop) : Prop :=
  match o.op with
  | .move x => match ev l x with
    | some v => C v
    | none => False
  | .assign x => match ev l x with
    | some v => C v
    | none => False
  | .pick c a b => match ev l c with
    | some (.bool t) => purePick (ev l a) (ev l b) t oa C
    | _ => False
  | .nilCheck x => match ev l x with
    | some (.pointer p) => match oa with
      | .n => match p with
        | some a => C (.pointer (some a))
        | none => False
      | _ => ∃ a, p = some a ∧ C (.pointer (some a))
    | some (.iface t v) => C (.iface t v)
    | some (.func (.func f) a b) => C (.func (.func f) a b)
    | _ => False
  | .binOp op t x y _ => match ev l x, ev l y with
    | some u, some v => binS P op t x y u v C
    | _, _ => False
  | .unOp op _ x => match op, ev l x with
    | .not, some (.bool b) => C (.bool (!b))
    | .neg, some (.int k n) => ∃ r : Int, k.wrap (0 - n) = r ∧ C (.int k r)
    | _, _ => False
  | .convert s d x => match ev l x with
    | some (.int k n) => match P.underlying s, P.underlying d with
      | some _, some (.int k') => ∃ r : Int, k'.wrap n = r ∧ C (.int k' r)
      | _, _ => False
    | some (.string b) => match P.underlying s, P.underlying d with
      | some _, some .string => C (.string b)
      | _, _ => False
    | _ => False
  | .makeInterface t x => match ev l x, isIface P t with
    | some v, false => C (.iface t v)
    | _, _ => False
  | .makeFunc fn first cap => match evs l first.toList, evs l cap.toList with
    | some vs, some us => C (.func fn ⟨vs⟩ ⟨us⟩)
    | _, _ => False
  | .slice t x lo hi mx => match mx, ev l x, optBound l lo, optBound l hi with
    | none, some (.string s), some i, some j => match P.underlying t with
      | some .string => strSlice s.data.toList i j C
      | _ => False
    | none, some (.slice p n c), some i, some j => match P.underlying t with
      | some (.slice e) => match cellsOf' P e with
        | some size => slSlice p n c size i j C
        | none => False
      | _ => False
    | none, some (.pointer (some a)), some i, some j => match P.underlying t with
      | some (.array n e) => match cellsOf' P e with
        | some size => slSlice (some a) n n size i j C
        | none => False
      | _ => False
    | _, _, _, _ => False
  | .fieldAddr t x f => match ev l x, fieldOff P t f with
    | some (.pointer (some a)), some (off, ty) => match cellsOf' P ty with
      | some (_ + 1) => C (.pointer (some (a.add off)))
      | _ => False
    | _, _ => False
  | .field t x f => match ev l x, fieldOff P t f with
    | some (.agg cs), some (off, ty) => match isAgg' P ty, cellsOf' P ty with
      | some true, some size => C (.agg ⟨(cs.toList.drop off).take size⟩)
      | some false, _ => match oa with
        | .n => match cs.toList[off]? with
          | some v => C v
          | none => False
        | oa => exRes oa.shs fun v => cs.toList[off]? = some v ∧ C v
      | _, _ => False
    | _, _ => False
  | .indexAddr t x i => match ev l x, ev l i with
    | some (.slice p n c), some (.int k j) => match P.underlying t with
      | some (.slice e) => match cellsOf' P e with
        | some size => (0 ≤ j ∧ j < n) ∧ match oa with
          | .n => match p with
            | some a => C (.pointer (some (a.add (j.toNat * size))))
            | none => False
          | _ => ∃ a, p = some a ∧ C (.pointer (some (a.add (j.toNat * size))))
        | none => False
      | _ => False
    | some (.pointer (some a)), some (.int k j) => match P.underlying t with
      | some (.array n e) => match cellsOf' P e with
        | some size => (0 ≤ j ∧ j < n) ∧ C (.pointer (some (a.add (j.toNat * size))))
        | none => False
      | _ => False
    | _, _ => False
  | .index t x i => match ev l x, ev l i with
    | some (.string s), some (.int k j) => match P.underlying t with
      | some .string => ∃ b : UInt8, (0 ≤ j ∧ s.data.toList[j.toNat]? = some b) ∧ C (.int .u8 b.toNat)
      | _ => False
    | _, _ => False
  | .extract x i => match ev l x with
    | some (.tuple vs) => match vs.toList[i]? with
      | some v => C v
      | none => False
    | _ => False
  | .call c => match c.callee, evs l c.args.toList with
    | .builtin .len, some [.string s] => match argT P c with
      | some .string => C (.int .i64 s.data.toList.length)
      | _ => False
    | .builtin .len, some [.slice _ n _] => match argT P c with
      | some (.slice _) => C (.int .i64 n)
      | _ => False
    | .builtin .cap, some [.slice _ _ n] => match argT P c with
      | some (.slice _) => C (.int .i64 n)
      | _ => False
    | .builtin .max, some [.int k a, .int _ b] => ∃ r : Int, (if b > a then b else a) = r ∧ C (.int k r)
    | .builtin .min, some [.int k a, .int _ b] => ∃ r : Int, (if b < a then b else a) = r ∧ C (.int k r)
    | _, _ => False
  | _ => False
def isPureCall (c : Call) : Bool :=
  match c.callee with
  | .builtin .len => true
  | .builtin .cap => true
  | .builtin .max => true
  | .builtin .min => true
  | _ => false
def opS (P : Program) (o : Oper) (oa : OA) (l : Env) (w : World) (C : Value → World → Prop) : Prop :=
  match o.op with
  | .alloc t => match zeros P t with
    | some z => ∀ w', w' = w.alloc (.cells z t) → C (.pointer (some ⟨w.heap.size, 0, none⟩)) w'
    | none => False
  | .box t x => match ev l x with
    | some v => ∀ w', w' = w.alloc (.cells v.cells t) → C (.pointer (some ⟨w.heap.size, 0, none⟩)) w'
    | none => False
  | .build t parts => match evParts l parts.toList with
    | some vs => match P.built t vs with
      | some cells => C (.agg cells) w
      | none => False
    | none => False
  | .buildSlice t n parts => match evParts l parts.toList, P.underlying t with
    | some vs, some (.slice e) => match cellsOf' P e == some 1 && builtS vs 0 && vs.length == n && decide (n ≤ 16777216) && (zeros P e).isSome with
      | true => ∀ w', w' = w.alloc (.cells ⟨vs.map (·.2)⟩ e) → C (.slice (some ⟨w.heap.size, 0, none⟩) n n) w'
      | false => ∃ cs : List Value, (Instr.buildSlice t n ⟨vs⟩).run P w = .ok (.slice (some ⟨w.heap.size, 0, none⟩) n n) (w.alloc (.cells ⟨cs⟩ e)) ∧
          C (.slice (some ⟨w.heap.size, 0, none⟩) n n) (w.alloc (.cells ⟨cs⟩ e))
    | _, _ => False
  | .load t x => match ev l x, isAgg' P t with
    | some (.pointer (some a)), some false => exRes oa.shs fun v => w.cell? a = some v ∧ C v w
    | some (.pointer (some a)), some true => exRow oa fun cs => LoadsRow P t w a cs ∧ C (.agg ⟨cs⟩) w
    | _, _ => False
  | .store t x y => match ev l x, ev l y, isAgg' P t, cellsOf' P t with
    | some (.pointer (some a)), some v, some false, some 1 => CanStore w a v ∧ ∀ w', w' = w.setCell a v → C undef w'
    | some (.pointer (some a)), some v, some true, _ => ∃ w', (Instr.storeAt t (.pointer (some a)) v).run P w = .ok () w' ∧ C undef w'
    | _, _, _, _ => False
  | .convert s d x => match oa with
    | .sh ss => match ev l x with
      | some v => does P (convert s d v) w ss C
      | none => False
    | oa => pureV P o oa l (fun v => C v w)
  | .binOp op t x y _ => match oa with
    | .sh ss => match ev l x, ev l y with
      | some u, some v => does P (do eqGuard op t x y u v; binOp op t u v) w ss C
      | _, _ => False
    | oa => pureV P o oa l (fun v => C v w)
  | .makeSlice t n c => match ev l n, ev l c with
    | some u, some v => does P (Instr.makeSlice t u v) w oa.shs C
    | _, _ => False
  | .range t x => match ev l x, P.underlying t with
    | some (.string s), some .string => ∀ w', w' = w.alloc (.stringIter s 0) → C (.pointer (some ⟨w.heap.size, 0, none⟩)) w'
    | _, _ => False
  | .unOp op t x => match oa with
    | .sh ss => match ev l x with
      | some v => does P (Op.unary op v) w ss C
      | none => False
    | oa => pureV P o oa l (fun v => C v w)
  | .next it isS => match ev l it with
    | some v => does P (Instr.next v isS o.type) w oa.shs C
    | none => False
  | .call c => bif isPureCall c then pureV P o oa l (fun v => C v w) else callS P c o.type l w oa.shs C
  | _ => pureV P o oa l (fun v => C v w)
section
variable {P : Program} {o : Oper} {l : Env} {a : Act} {w : World} {C : Value → World → Prop} {Q : Exit → Act → World → Prop}
def Good (o : Oper) (a : Act) (C : Value → World → Prop) : Act → World → Prop := fun a' w' => ∃ v, a' = a.put o.dst v ∧ C v w'
theorem good_value {v : Value} {w' : World} (hr : (execOp a.eval o).run P w = .ok (.value v) w') (h : C v w') : o.wp P a w (Good o a C) Q := by
  unfold Oper.wp; rw [hr]; exact ⟨v, rfl, h⟩
theorem good_skip {w' : World} (hr : (execOp a.eval o).run P w = .ok .skip w') (h : C undef w') : o.wp P a w (Good o a C) Q := by
  unfold Oper.wp; rw [hr]; exact ⟨undef, rfl, h⟩
theorem good_enter {g : Nat} {as : Array Value} {ss : List SH} {w' : World} (hr : (execOp a.eval o).run P w = .ok (.enter g as) w')
    (h : Calls P g as w' fun e w'' => exRes ss fun v => e = .returned v ∧ C v w'') : o.wp P a w (Good o a C) Q := by
  unfold Oper.wp; rw [hr]
  refine h.mono fun e w'' he => ?_
  obtain ⟨v, rfl, hc⟩ := exRes_out he
  exact ⟨v, rfl, hc⟩
theorem good_sem {s : Sem Value} {v : Value} {w' : World} (he : execOp a.eval o = (do pure (.value (← s)))) (hr : s.run P w = .ok v w') (h : C v w') : o.wp P a w (Good o a C) Q :=
  good_value (v := v) (w' := w') (by rw [he]; simp [hr]) h
theorem good_does {s : Sem Value} {ss : List SH} (he : execOp a.eval o = (do pure (.value (← s)))) (h : does P s w ss C) : o.wp P a w (Good o a C) Q := by
  obtain ⟨v, w', hr, hc⟩ := exRes_out h
  exact good_sem he hr hc
end
theorem mkS_data (s : List UInt8) : (mkS s).data.toList = s := rfl
theorem mkS_eta (s : ByteArray) : mkS s.data.toList = s := rfl
theorem mkS_size (s : ByteArray) : s.data.toList.length = s.size := rfl
theorem mkS_ext {s t : ByteArray} (h : s.data.toList = t.data.toList) : s = t := by
  rw [← mkS_eta s, h, mkS_eta]
theorem beq_data (x y : ByteArray) : (x.toList == y.toList) = decide (x.data.toList = y.data.toList) := by
  rw [ByteArray.toList_eq, ByteArray.toList_eq]
  rw [Bool.eq_iff_iff]; simp
theorem run_sizeOf {P : Program} {t : TypeId} {n : Nat} (h : cellsOf' P t = some n) (w : World) : (sizeOf t).run P w = .ok n w := by
  unfold cellsOf' at h
  cases hi : P.info? t with
  | none => rw [hi] at h; cases h
  | some i =>
    rw [hi] at h
    have : i.size = n := Option.some.inj h
    simp [sizeOf, typeInfo, hi, this]
theorem run_isAgg {P : Program} {t : TypeId} {b : Bool} (h : isAgg' P t = some b) (w : World) : (isAgg t).run P w = .ok b w := by
  unfold isAgg' at h
  split at h <;> try cases h
  · rename_i fs hu; simp [isAgg, run_underlying hu]
  · rename_i n e hu; simp [isAgg, run_underlying hu]
  · rename_i d h1 h2 hu
    cases d <;> first | (simp [isAgg, run_underlying hu]; done) | (exfalso; exact h1 _ rfl) | (exfalso; exact h2 _ _ rfl)
theorem run_zeroValue {P : Program} {t : TypeId} {z : Array Value} (h : zeros P t = some z) (w : World) : ∃ v, (zeroValue t).run P w = .ok v w ∧ v.cells = z := by
  unfold zeros at h
  split at h
  · rename_i i hi
    split at h
    · rename_i v hv
      exact ⟨v, by simp [zeroValue, typeInfo, hi, hv], Option.some.inj h⟩
    · cases h
  · cases h
theorem intBin_sound {P : Program} {op : BinOp} {k : IntKind} {a b : Int} {t : TypeId} {C : Value → Prop} (hs : isShift op = false)
    (h : intBin op k a b C) : ∃ v, (∀ w, (binOp op t (.int k a) (.int k b)).run P w = .ok v w) ∧ C v := by
  cases op <;> simp only [intBin, isShift, Bool.true_eq_false] at h hs
  case add => obtain ⟨r, hr, hc⟩ := h; exact ⟨_, fun w => by simp [binOp_add, Op.intArith, hr], hc⟩
  case sub => obtain ⟨r, hr, hc⟩ := h; exact ⟨_, fun w => by simp [binOp_sub, Op.intArith, hr], hc⟩
  case mul => obtain ⟨r, hr, hc⟩ := h; exact ⟨_, fun w => by simp [binOp_mul, Op.intArith, hr], hc⟩
  case quo => obtain ⟨h0, r, hr, hc⟩ := h; exact ⟨_, fun w => by simp [binOp_quo, Op.intDiv, hr, h0], hc⟩
  case rem => obtain ⟨h0, r, hr, hc⟩ := h; exact ⟨_, fun w => by simp [binOp_rem, Op.intDiv, hr, h0], hc⟩
  case and => obtain ⟨r, hr, hc⟩ := h; exact ⟨_, fun w => by simp [binOp_and, intBits_and, hr], hc⟩
  case or => obtain ⟨r, hr, hc⟩ := h; exact ⟨_, fun w => by simp [binOp_or, intBits_or, hr], hc⟩
  case xor => obtain ⟨r, hr, hc⟩ := h; exact ⟨_, fun w => by simp [binOp_xor, intBits_xor, hr], hc⟩
  case andNot => obtain ⟨r, hr, hc⟩ := h; exact ⟨_, fun w => by simp [binOp_andNot, intBits_andNot, hr], hc⟩
  case eql => exact ⟨_, fun w => by rw [binOp_eql]; rfl, h⟩
  case neq => exact ⟨_, fun w => by rw [binOp_neq]; rfl, h⟩
  case lss => exact ⟨_, fun w => by rw [binOp_lss]; rfl, h⟩
  case leq => exact ⟨_, fun w => by rw [binOp_leq]; rfl, h⟩
  case gtr => exact ⟨_, fun w => by rw [binOp_gtr]; rfl, h⟩
  case geq => exact ⟨_, fun w => by rw [binOp_geq]; rfl, h⟩
theorem shiftBin_sound {P : Program} {op : BinOp} {k k' : IntKind} {a b : Int} {t : TypeId} {C : Value → Prop} (hs : isShift op = true)
    (h : shiftBin op k a b C) : ∃ v, (∀ w, (binOp op t (.int k a) (.int k' b)).run P w = .ok v w) ∧ C v := by
  cases op <;> simp only [shiftBin] at h
  case shl => obtain ⟨h0, r, hr, hc⟩ := h; exact ⟨_, fun w => by simp [binOp_shl, Op.shift, hr, Int.not_lt.2 h0], hc⟩
  case shr => obtain ⟨h0, r, hr, hc⟩ := h; exact ⟨_, fun w => by simp [binOp_shr, Op.shift, hr, Int.not_lt.2 h0], hc⟩
theorem strBin_sound {P : Program} {op : BinOp} {a b : ByteArray} {t : TypeId} {C : Value → Prop}
    (h : strBin op a.data.toList b.data.toList C) : ∃ v, (∀ w, (binOp op t (.string a) (.string b)).run P w = .ok v w) ∧ C v := by
  cases op <;> simp only [strBin] at h
  case add =>
    obtain ⟨h0, hc⟩ := h
    refine ⟨.string (a ++ b), fun w => ?_, ?_⟩
    · rw [mkS_size, mkS_size] at h0
      have : ¬ (((a.size + b.size : Nat) : Int) > IntKind.i64.max) := by rw [IntKind.max_i64]; omega
      simp only [binOp, Op.stringOp]
      rw [if_neg this]; rfl
    · have e : a ++ b = mkS (a.data.toList ++ b.data.toList) := mkS_ext (by rw [mkS_data]; simp)
      rw [e]; exact hc
  case eql => exact ⟨_, fun w => by simp only [binOp, Op.stringOp, beq_data]; rfl, h⟩
  case neq => exact ⟨_, fun w => by simp only [binOp, Op.stringOp, beq_data]; rfl, h⟩
theorem floatBin_sound {P : Program} {op : BinOp} {k : FloatKind} {a b : Nat} {t : TypeId} {C : Value → Prop}
    (h : floatBin op k a b C) : ∃ v, (∀ w, (binOp op t (.float k a) (.float k b)).run P w = .ok v w) ∧ C v := by
  cases op <;> simp only [floatBin] at h
  case eql => exact ⟨_, fun w => by simp [binOp, Op.floatCmp], h⟩
  case neq => exact ⟨_, fun w => by simp only [binOp, Op.floatCmp, ne_eq, not_true_eq_false, if_false]; rfl, h⟩
  case lss => exact ⟨_, fun w => by simp [binOp, Op.floatCmp], h⟩
  case gtr => exact ⟨_, fun w => by simp [binOp, Op.floatCmp], h⟩
theorem equal_one {P : Program} {t : TypeId} {u v : Value} : Op.equal t u v = Op.equalIn (9999 + 1) t u v := rfl
theorem eqBin_sound {P : Program} {op : BinOp} {b : Bool} {t : TypeId} {u v : Value} {C : Value → Prop}
    (h1 : binOp .eql t u v = (do pure (.bool (← Op.equal t u v)))) (h2 : binOp .neq t u v = (do pure (.bool (!(← Op.equal t u v)))))
    (he : ∀ w, (Op.equal t u v).run P w = .ok b w) (h : nilBin op b C) : ∃ v', (∀ w, (binOp op t u v).run P w = .ok v' w) ∧ C v' := by
  cases op <;> simp only [nilBin] at h
  case eql => exact ⟨.bool b, fun w => by rw [h1]; simp [he], h⟩
  case neq => exact ⟨.bool (!b), fun w => by rw [h2]; simp [he], h⟩
theorem bin_fin {P : Program} {op : BinOp} {t : TypeId} {x y : Operand} {u v : Value} {C : Value → Prop}
    (hg : eqGuard op t x y u v = pure ()) (h : ∃ r, (∀ w, (binOp op t u v).run P w = .ok r w) ∧ C r) :
    ∃ r, (∀ w, (do eqGuard op t x y u v; binOp op t u v : Sem Value).run P w = .ok r w) ∧ C r := by
  obtain ⟨r, hr, hc⟩ := h
  exact ⟨r, fun w => by rw [hg]; simp [hr], hc⟩
theorem binS_sound {P : Program} {op : BinOp} {t : TypeId} {x y : Operand} {u v : Value} {C : Value → Prop}
    (h : binS P op t x y u v C) : ∃ r, (∀ w, (do eqGuard op t x y u v; binOp op t u v : Sem Value).run P w = .ok r w) ∧ C r := by
  unfold binS at h
  split at h
  · rename_i k a k' b
    refine bin_fin (eqGuard_at_int ..) ?_
    cases hs : isShift op
    · rw [hs] at h
      simp only [cond_false] at h
      split at h
      · rename_i hk; subst hk
        exact intBin_sound hs h
      · exact h.elim
    · rw [hs] at h
      simp only [cond_true] at h
      exact shiftBin_sound hs h
  · exact bin_fin (eqGuard_at_string ..) (strBin_sound h)
  · split at h
    · rename_i a b _ ht
      refine bin_fin (eqGuard_at_bool ..) ?_
      refine eqBin_sound (b := a == b) rfl rfl (fun w => by rw [equal_one (P := P), Op.equalIn]; simp [run_underlying ht]) ?_
      cases op <;> exact h
    · exact h.elim
  · split at h
    · rename_i ht
      exact bin_fin (eqGuard_at_slice ..) (eqBin_sound rfl rfl (fun w => by rename Option Addr => p; rw [equal_one (P := P), Op.equalIn]; cases p <;> simp [run_underlying ht]) h)
    · exact h.elim
  · split at h
    · rename_i ht
      exact bin_fin (eqGuard_at_pointer ..) (eqBin_sound rfl rfl (fun w => by rename Option Addr => p; rw [equal_one (P := P), Op.equalIn]; cases p <;> simp [run_underlying ht]) h)
    · exact h.elim
  · split at h
    · rename_i ht
      exact bin_fin (eqGuard_at_iface ..) (eqBin_sound rfl rfl (fun w => by rw [equal_one (P := P), Op.equalIn]; simp [run_underlying ht]) h)
    · exact h.elim
  · split at h
    · rename_i ht
      cases y with
      | const z => exact bin_fin (eqGuard_nil_constR ..) (eqBin_sound rfl rfl (fun w => by rw [equal_one (P := P), Op.equalIn]; simp [run_underlying ht]) h)
      | _ => exact h.elim
    · exact h.elim
  · split at h
    · rename_i hk; subst hk
      exact bin_fin (eqGuard_at_float ..) (floatBin_sound h)
    · exact h.elim
  · exact h.elim
theorem fieldOff_spec {P : Program} {t : TypeId} {f off ty : Nat} (h : fieldOff P t f = some (off, ty)) :
    ∃ fs g, P.underlying t = some (.struct fs) ∧ fs[f]? = some g ∧ g.offset = off ∧ g.type = ty := by
  unfold fieldOff at h
  split at h
  · rename_i fs hfs
    split at h
    · rename_i g hg
      cases h
      exact ⟨fs, g, hfs, hg, rfl, rfl⟩
    · cases h
  · cases h
theorem optBound_spec {l : Env} {a : Act} (hf : Fits l a) {x : Option Operand} {r : Option Int} (h : optBound l x = some r) :
    (x = none ∧ r = none) ∨ ∃ y k n, x = some y ∧ r = some n ∧ a.eval y = .int k n := by
  unfold optBound at h
  split at h
  · cases h; exact .inl ⟨rfl, rfl⟩
  · split at h
    · rename_i y _ k n he
      cases h
      exact .inr ⟨y, k, n, rfl, rfl, hf.ev he⟩
    · cases h
theorem enters_spec {P : Program} {g : Nat} (h : enters P g = true) (args : Array Value) (w : World) : (callFunc g args).run P w = .ok (.enter g args) w := by
  unfold enters at h
  split at h
  · rename_i fn hfn
    simp only [Bool.and_eq_true, Bool.not_eq_true'] at h
    obtain ⟨h1, h2⟩ := h
    have h3 : ¬ (fn.body.isNone = true) := by cases hb : fn.body <;> simp_all
    have h4 : ¬ ((fn.name == "runtime.NumGoroutine") = true) := by rw [h2]; exact Bool.false_ne_true
    simp only [callFunc, Sem.run_bind, run_program, Result.andThen_ok, hfn]
    rw [if_neg h4, if_neg h3]
    rfl
  · cases h
theorem evParts_spec {l : Env} {a : Act} (hf : Fits l a) : ∀ {xs : List (Nat × Operand)} {vs : List (Nat × Value)}, evParts l xs = some vs → xs.map (fun p => (p.1, a.eval p.2)) = vs
  | [], vs, hv => by simp [evParts] at hv; simp [hv]
  | (i, x) :: xs, vs, hv => by
    simp only [evParts] at hv
    split at hv
    · rename_i v vs' h1 h2
      cases hv
      simp [hf.ev h1, evParts_spec hf h2]
    · cases hv
theorem isIface_spec {P : Program} {t : TypeId} (h : isIface P t = false) (v : Value) (w : World) : (Instr.makeInterface t v).run P w = .ok (.iface t v) w := by
  unfold isIface at h
  split at h <;> try cases h
  rename_i d hn hu
  cases hd : P.underlying t with
  | none => exact absurd hd hu
  | some d' =>
    cases d' <;> first | (simp [Instr.makeInterface, run_underlying hd]; done) | (exfalso; exact hn _ hd)
theorem fill_parts (pl : Nat → Option (Nat × Nat)) (hpl : ∀ i, pl i = some (i, 1)) : ∀ (vs : List (Nat × Value)) (k : Nat) (cs : Array Value), builtS vs k = true → cs.size = k + vs.length →
    Instr.fill pl cs vs = some ⟨cs.toList.take k ++ vs.map (·.2)⟩
  | [], k, cs, _, hs => by
    simp only [Instr.fill, List.map_nil, List.append_nil]
    simp only [List.length_nil, Nat.add_zero] at hs
    rw [List.take_of_length_le (by rw [Array.length_toList]; omega)]
  | (i, v) :: vs, k, cs, hb, hs => by
    simp only [builtS, Bool.and_eq_true, beq_iff_eq] at hb
    obtain ⟨⟨rfl, h1⟩, h2⟩ := hb
    have hv : v.cells = #[v] := by cases v <;> first | rfl | (simp [Value.oneCell'] at h1)
    simp only [List.length_cons] at hs
    simp only [Instr.fill, hv, hpl]
    rw [if_neg (by simp; omega)]
    have he : (#[v].zipIdx.foldl (fun cs (x : Value × Nat) => cs.setIfInBounds (i + x.2) x.1) cs) = cs.setIfInBounds i v := by simp
    rw [he, fill_parts pl hpl vs (i + 1) _ h2 (by simp; omega)]
    congr 1
    have hi : i < cs.toList.length := by rw [Array.length_toList]; omega
    have : (cs.setIfInBounds i v).toList.take (i + 1) = cs.toList.take i ++ [v] := by
      rw [Array.toList_setIfInBounds, List.take_add_one, List.take_set_of_le (Nat.le_refl _), List.getElem?_set_self hi]; rfl
    rw [this]; simp
theorem run_buildSlice {P : Program} {t e n : Nat} {vs : List (Nat × Value)} {w : World} (ht : P.underlying t = some (.slice e)) (he : cellsOf' P e = some 1)
    (hb : builtS vs 0 = true) (hn : vs.length = n) (hm : n ≤ 16777216) (hz : (zeros P e).isSome = true) :
    (Instr.buildSlice t n ⟨vs⟩).run P w = .ok (.slice (some ⟨w.heap.size, 0, none⟩) n n) (w.alloc (.cells ⟨vs.map (·.2)⟩ e)) := by
  obtain ⟨z, hz⟩ := Option.isSome_iff_exists.1 hz
  obtain ⟨v, hv, hvz⟩ := run_zeroValue hz w
  have hlim : ¬ (n * 1 > 2 ^ 24) := by simp; omega
  by_cases h0 : n = 0
  · subst h0
    simp only [Instr.buildSlice, Sem.run_bind, run_underlying ht, Result.andThen_ok, run_sizeOf he, Nat.mul_one, if_neg hlim, if_true, Sem.run_pure]
    rw [fill_parts _ (fun i => rfl) vs 0 _ hb (by simp [hn])]
    simp [newRow]
  · have hlim' : ¬ (n > 2 ^ 24) := by simp; omega
    simp only [Instr.buildSlice, Sem.run_bind, run_underlying ht, Result.andThen_ok, run_sizeOf he, Nat.mul_one, if_neg hlim', if_neg h0, Sem.run_pure]
    simp only [Sem.run_bind, hv, Sem.run_pure, Result.andThen_ok]
    rw [fill_parts _ (fun i => rfl) vs 0 _ hb (by simp [hn])]
    simp [newRow]
theorem run_loadVar_one {P : Program} {t : TypeId} {w : World} {a : Addr} {v : Value} (ht : isAgg' P t = some false) (h : w.cell? a = some v) : (loadVar t a).run P w = .ok v w := by
  simp [loadVar, run_isAgg ht, h]
theorem run_loadVar_many {P : Program} {t : TypeId} {w : World} {a : Addr} {cs : List Value} (ht : isAgg' P t = some true) (h : LoadsRow P t w a cs) : (loadVar t a).run P w = .ok (.agg ⟨cs⟩) w := by
  have := run_loadCells_list (P := P) (w := w) a cs h.2
  simp [loadVar, run_isAgg ht, run_sizeOf h.1, this]
theorem run_storeVar_one {P : Program} {t : TypeId} {w : World} {a : Addr} {v : Value} (hn : cellsOf' P t = some 1) (h : CanStore w a v) : (storeVar t a v).run P w = .ok () (w.setCell a v) := by
  obtain ⟨h1, h2, h3⟩ := h
  obtain ⟨u, hu⟩ := Option.isSome_iff_exists.1 h1
  have hv : v.cells = #[v] := by cases v <;> first | rfl | (simp [Value.oneCell'] at h3)
  simp [storeVar, hv, run_sizeOf hn, storeCells, run_store, h3, stored, Addr.add_zero', hu, h2]
def BoundIs (x : Option Value) (r : Option Int) : Prop := (x = none ∧ r = none) ∨ ∃ k n, x = some (.int k n) ∧ r = some n
theorem BoundIs.of {l : Env} {a : Act} (hf : Fits l a) {x : Option Operand} {r : Option Int} (h : optBound l x = some r) : BoundIs (x.map a.eval) r := by
  rcases optBound_spec hf h with ⟨rfl, rfl⟩ | ⟨y, k, n, rfl, rfl, he⟩
  · exact .inl ⟨rfl, rfl⟩
  · exact .inr ⟨k, n, by simp [he], rfl⟩
theorem run_sliceBound {P : Program} {k : IntKind} {n : Int} {y : Nat} {c : BoundsCode} (h0 : 0 ≤ n) (h1 : n ≤ y) (w : World) :
    (Instr.sliceBound (.int k n) y c).run P w = .ok n.toNat w := by
  simp [Instr.sliceBound, asIntOf, h0, h1]
section
variable {P : Program} {b : Bool} {n c : Nat} {w : World} {k k' : IntKind} {x y : Int}
theorem run_bounds_nn : (Instr.sliceBounds b n c none none none).run P w = .ok (0, n, c) w := by simp [Instr.sliceBounds]
theorem run_bounds_sn (h0 : 0 ≤ x) (h1 : x ≤ n) : (Instr.sliceBounds b n c (some (.int k x)) none none).run P w = .ok (x.toNat, n, c) w := by
  simp [Instr.sliceBounds, run_sliceBound h0 h1]
theorem run_bounds_ns (h0 : 0 ≤ y) (h1 : y ≤ c) : (Instr.sliceBounds b n c none (some (.int k y)) none).run P w = .ok (0, y.toNat, c) w := by
  simp [Instr.sliceBounds, run_sliceBound h0 h1]
theorem run_bounds_ss (h0 : 0 ≤ x) (h1 : x ≤ y) (h2 : y ≤ c) : (Instr.sliceBounds b n c (some (.int k x)) (some (.int k' y)) none).run P w = .ok (x.toNat, y.toNat, c) w := by
  simp [Instr.sliceBounds, run_sliceBound (show 0 ≤ y by omega) h2, run_sliceBound h0 (show x ≤ (y.toNat : Int) by omega)]
end
theorem run_slice_slice {P : Program} {t e : TypeId} {p : Option Addr} {n c size l h m : Nat} {lo hi : Option Value} {w : World} (ht : P.underlying t = some (.slice e)) (he : cellsOf' P e = some size)
    (hb : (Instr.sliceBounds true n c lo hi none).run P w = .ok (l, h, m) w) :
    (Instr.sliceAt t (.slice p n c) lo hi none).run P w = .ok (.slice (if m = l then p else p.map (·.add (l * size))) (h - l) (m - l)) w := by
  simp only [Instr.sliceAt, Instr.slice, Sem.run_bind, run_underlying ht, Result.andThen_ok, hb, run_sizeOf he, Sem.run_pure]
theorem run_slice_array {P : Program} {t e : TypeId} {a : Addr} {n size l h m : Nat} {lo hi : Option Value} {w : World} (ht : P.underlying t = some (.array n e)) (he : cellsOf' P e = some size)
    (hb : (Instr.sliceBounds false n n lo hi none).run P w = .ok (l, h, m) w) :
    (Instr.sliceAt t (.pointer (some a)) lo hi none).run P w = .ok (.slice (some (if m = l then a else a.add (l * size))) (h - l) (m - l)) w := by
  simp only [Instr.sliceAt, Sem.run_bind, run_underlying ht, Result.andThen_ok, hb, run_sizeOf he, Sem.run_pure, Instr.sureAddr]
theorem run_slice_string {P : Program} {t : TypeId} {s : ByteArray} {l h m : Nat} {lo hi : Option Value} {w : World} (ht : P.underlying t = some .string)
    (hb : (Instr.sliceBounds false s.size s.size lo hi none).run P w = .ok (l, h, m) w) :
    (Instr.sliceAt t (.string s) lo hi none).run P w = .ok (.string (mkS ((s.data.toList.drop l).take (h - l)))) w := by
  have ext : s.extract l h = mkS ((s.data.toList.drop l).take (h - l)) := mkS_ext (by rw [mkS_data, Lib.extract_data])
  simp only [Instr.sliceAt, Instr.slice, Sem.run_bind, run_underlying ht, Result.andThen_ok]
  rw [if_neg (by simp)]
  simp only [Sem.run_bind, Result.andThen_ok, hb, Sem.run_pure, ext]
theorem slAddr_zero (p : Option Addr) (m size : Nat) : (if m = 0 then p else p.map (·.add (0 * size))) = p := by
  split
  · rfl
  · cases p <;> simp [Addr.add_zero']
theorem slAddr_some (a : Addr) (m l size : Nat) : some (if m = l then a else a.add (l * size)) = slAddr (some a) m l size := by
  unfold slAddr; split <;> rfl
theorem strSlice_sound {P : Program} {t : TypeId} {s : ByteArray} {lo hi : Option Value} {i j : Option Int} {C : Value → Prop}
    (ht : P.underlying t = some .string) (hlo : BoundIs lo i) (hhi : BoundIs hi j)
    (h : strSlice s.data.toList i j C) : ∃ v, (∀ w, (Instr.sliceAt t (.string s) lo hi none).run P w = .ok v w) ∧ C v := by
  have hs := mkS_size s
  rcases hlo with ⟨rfl, rfl⟩ | ⟨k, n, rfl, rfl⟩ <;> rcases hhi with ⟨rfl, rfl⟩ | ⟨k', m, rfl, rfl⟩ <;> simp only [strSlice] at h
  · refine ⟨_, fun w => run_slice_string ht run_bounds_nn, ?_⟩
    rw [List.drop_zero, List.take_of_length_le (by omega)]; exact h
  · obtain ⟨⟨h0, h1⟩, hc⟩ := h
    rw [hs] at h1
    refine ⟨_, fun w => run_slice_string ht (run_bounds_ns h0 h1), ?_⟩
    rw [List.drop_zero, Nat.sub_zero]; exact hc
  · obtain ⟨⟨h0, h1⟩, hc⟩ := h
    rw [hs] at h1
    refine ⟨_, fun w => run_slice_string ht (run_bounds_sn h0 h1), ?_⟩
    rw [List.take_of_length_le (by rw [List.length_drop]; omega)]; exact hc
  · obtain ⟨⟨h0, h1, h2⟩, hc⟩ := h
    rw [hs] at h2
    exact ⟨_, fun w => run_slice_string ht (run_bounds_ss h0 h1 h2), hc⟩
theorem slSlice_sound {P : Program} {t e : TypeId} {p : Option Addr} {n c size : Nat} {lo hi : Option Value} {i j : Option Int} {C : Value → Prop}
    (ht : P.underlying t = some (.slice e)) (he : cellsOf' P e = some size) (hlo : BoundIs lo i) (hhi : BoundIs hi j)
    (h : slSlice p n c size i j C) : ∃ v, (∀ w, (Instr.sliceAt t (.slice p n c) lo hi none).run P w = .ok v w) ∧ C v := by
  rcases hlo with ⟨rfl, rfl⟩ | ⟨k, x, rfl, rfl⟩ <;> rcases hhi with ⟨rfl, rfl⟩ | ⟨k', y, rfl, rfl⟩ <;> simp only [slSlice] at h
  · refine ⟨_, fun w => run_slice_slice ht he run_bounds_nn, ?_⟩
    rw [slAddr_zero]; exact h
  · obtain ⟨⟨h0, h1⟩, hc⟩ := h
    refine ⟨_, fun w => run_slice_slice ht he (run_bounds_ns h0 h1), ?_⟩
    rw [slAddr_zero]; exact hc
  · obtain ⟨⟨h0, h1, h2⟩, hc⟩ := h
    exact ⟨_, fun w => run_slice_slice ht he (run_bounds_sn h0 h1), hc⟩
  · obtain ⟨⟨h0, h1, h2⟩, hc⟩ := h
    exact ⟨_, fun w => run_slice_slice ht he (run_bounds_ss h0 h1 h2), hc⟩
theorem arSlice_sound {P : Program} {t e : TypeId} {a : Addr} {n size : Nat} {lo hi : Option Value} {i j : Option Int} {C : Value → Prop}
    (ht : P.underlying t = some (.array n e)) (he : cellsOf' P e = some size) (hlo : BoundIs lo i) (hhi : BoundIs hi j)
    (h : slSlice (some a) n n size i j C) : ∃ v, (∀ w, (Instr.sliceAt t (.pointer (some a)) lo hi none).run P w = .ok v w) ∧ C v := by
  rcases hlo with ⟨rfl, rfl⟩ | ⟨k, x, rfl, rfl⟩ <;> rcases hhi with ⟨rfl, rfl⟩ | ⟨k', y, rfl, rfl⟩ <;> simp only [slSlice] at h
  · refine ⟨_, fun w => run_slice_array ht he run_bounds_nn, ?_⟩
    rw [slAddr_some, slAddr, slAddr_zero]; exact h
  · obtain ⟨⟨h0, h1⟩, hc⟩ := h
    refine ⟨_, fun w => run_slice_array ht he (run_bounds_ns h0 h1), ?_⟩
    rw [slAddr_some, slAddr, slAddr_zero]; exact hc
  · obtain ⟨⟨h0, h1, h2⟩, hc⟩ := h
    refine ⟨_, fun w => run_slice_array ht he (run_bounds_sn h0 h1), ?_⟩
    rw [slAddr_some]; exact hc
  · obtain ⟨⟨h0, h1, h2⟩, hc⟩ := h
    refine ⟨_, fun w => run_slice_array ht he (run_bounds_ss h0 h1 h2), ?_⟩
    rw [slAddr_some]; exact hc
end Go.Vc
