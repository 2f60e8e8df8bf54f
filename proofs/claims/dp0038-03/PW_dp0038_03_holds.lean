import PyProof.Rows.All
import Wide.All
import OpenK.AllK
import Wide.FinOn
import PySem.Challenge.RW_dp0038_03
set_option Elab.async false
section
open PySem PySem.W PyProof.Rows
namespace Mine

/-! Values, memory, representation -/
inductive Val where
  | none
  | bool (b : Bool)
  | int (i : Int)
  | str (x : Str)
  | tup (vs : List Val)
  | lst (vs : List Val)
  | ref (a : Addr)

inductive Box where
  | list (vs : List Val)
  | dict (kvs : List (Int × Val))

abbrev Mem := Addr → Option Box

mutual
inductive RV (h : Heap) (mem : Mem) : Value → Val → Prop
  | none : RV h mem Value.none Val.none
  | bool (b : Bool) : RV h mem (Value.bool b) (Val.bool b)
  | int (i : Int) (t : Tok) : RV h mem (Value.int i t) (Val.int i)
  | str (x : Str) (t : Tok) : RV h mem (Value.str x t) (Val.str x)
  | tup {a : Addr} {items : List Value} {n : Nat} {vs : List Val} : IsT h a items.toArray n → mem a = Option.none → RVs h mem items vs → RV h mem (Value.ref a) (Val.tup vs)
  | lst {a : Addr} {items : List Value} {n : Nat} {vs : List Val} : IsL h a items.toArray n → mem a = Option.none → RVs h mem items vs → RV h mem (Value.ref a) (Val.lst vs)
  | ref (a : Addr) : RV h mem (Value.ref a) (Val.ref a)
inductive RVs (h : Heap) (mem : Mem) : List Value → List Val → Prop
  | nil : RVs h mem [] []
  | cons {v : Value} {vs : List Value} {V : Val} {Vs : List Val} : RV h mem v V → RVs h mem vs Vs → RVs h mem (v :: vs) (V :: Vs)
end

def isSeqObj (o : Obj) : Prop := ∃ items n, o.data = .seq items n

mutual
theorem RV.mono {h h' : Heap} {mem mem' : Mem} (hk : ∀ b o, h.get? b = some o → mem b = none → isSeqObj o → h'.get? b = some o ∧ mem' b = none) :
    ∀ {v : Value} {V : Val}, RV h mem v V → RV h' mem' v V
  | _, _, .none => .none
  | _, _, .bool b => .bool b
  | _, _, .int i t => .int i t
  | _, _, .str x t => .str x t
  | _, _, .tup e m r => let k := hk _ _ e m ⟨_, _, rfl⟩; .tup k.1 k.2 (RVs.mono hk r)
  | _, _, .lst e m r => let k := hk _ _ e m ⟨_, _, rfl⟩; .lst k.1 k.2 (RVs.mono hk r)
  | _, _, .ref a => .ref a
theorem RVs.mono {h h' : Heap} {mem mem' : Mem} (hk : ∀ b o, h.get? b = some o → mem b = none → isSeqObj o → h'.get? b = some o ∧ mem' b = none) :
    ∀ {vs : List Value} {Vs : List Val}, RVs h mem vs Vs → RVs h' mem' vs Vs
  | _, _, .nil => .nil
  | _, _, .cons a r => .cons (RV.mono hk a) (RVs.mono hk r)
end

section
variable {h : Heap} {mem : Mem} {vs ws : List Value} {Vs Ws : List Val}
theorem RVs.length (r : RVs h mem vs Vs) : vs.length = Vs.length := by
  induction vs generalizing Vs with
  | nil => cases r; rfl
  | cons v vs ih => cases r with | cons _ r => simp [ih r]
theorem RVs.append (r : RVs h mem vs Vs) (q : RVs h mem ws Ws) : RVs h mem (vs ++ ws) (Vs ++ Ws) := by
  induction vs generalizing Vs with
  | nil => cases r; exact q
  | cons v vs ih => cases r with | cons a r => exact .cons a (ih r)
theorem RVs.get (r : RVs h mem vs Vs) {k : Nat} {V : Val} (e : Vs[k]? = some V) : ∃ v, vs[k]? = some v ∧ RV h mem v V := by
  induction vs generalizing Vs k with
  | nil => cases r; simp at e
  | cons v vs ih =>
    cases r with
    | cons a r =>
      cases k with
      | zero => simp at e; subst e; exact ⟨v, rfl, a⟩
      | succ k => simp at e; exact ih r e
theorem RVs.get' (r : RVs h mem vs Vs) {k : Nat} {v : Value} (e : vs[k]? = some v) : ∃ V, Vs[k]? = some V ∧ RV h mem v V := by
  induction vs generalizing Vs k with
  | nil => simp at e
  | cons u vs ih =>
    cases r with
    | cons a r =>
      cases k with
      | zero => simp at e; subst e; exact ⟨_, rfl, a⟩
      | succ k => simp at e; exact ih r e
theorem RVs.set (r : RVs h mem vs Vs) {k : Nat} {v : Value} {V : Val} (e : RV h mem v V) : RVs h mem (vs.set k v) (Vs.set k V) := by
  induction vs generalizing Vs k with
  | nil => cases r; exact .nil
  | cons u vs ih =>
    cases r with
    | cons a r =>
      cases k with
      | zero => exact .cons e r
      | succ k => exact .cons a (ih r)
theorem RVs.drop (r : RVs h mem vs Vs) (k : Nat) : RVs h mem (vs.drop k) (Vs.drop k) := by
  induction vs generalizing Vs k with
  | nil => cases r; simpa using RVs.nil
  | cons u vs ih =>
    cases r with
    | cons a r =>
      cases k with
      | zero => exact .cons a r
      | succ k => exact ih r k
theorem RVs.take (r : RVs h mem vs Vs) (k : Nat) : RVs h mem (vs.take k) (Vs.take k) := by
  induction vs generalizing Vs k with
  | nil => cases r; simpa using RVs.nil
  | cons u vs ih =>
    cases r with
    | cons a r =>
      cases k with
      | zero => exact .nil
      | succ k => exact .cons a (ih r k)
theorem RVs.snoc (r : RVs h mem vs Vs) {v : Value} {V : Val} (e : RV h mem v V) : RVs h mem (vs ++ [v]) (Vs ++ [V]) := r.append (.cons e .nil)
theorem RVs.reverse (r : RVs h mem vs Vs) : RVs h mem vs.reverse Vs.reverse := by
  induction vs generalizing Vs with
  | nil => cases r; exact .nil
  | cons v vs ih => cases r with | cons a r => simpa using (ih r).snoc a
theorem RVs.ints {ns : List Int} (r : RVs h mem vs (ns.map Val.int)) : IntsAre vs ns := by
  induction vs generalizing ns with
  | nil =>
    cases ns with
    | nil => exact .nil
    | cons n ns => cases r
  | cons v vs ih =>
    cases ns with
    | nil => cases r
    | cons n ns =>
      cases r with
      | cons a r =>
        cases a with
        | int i t => exact .cons _ _ (ih r)
theorem RVs.of_ints {ns : List Int} (r : IntsAre vs ns) : RVs h mem vs (ns.map Val.int) := by
  induction r with
  | nil => exact .nil
  | cons n t r ih => exact .cons (.int _ _) ih
end

structure St where
  mem : Mem
  loc : Str → Option Val

def St.put (σ : St) (a : Addr) (b : Box) : St := { σ with mem := fun c => if c = a then some b else σ.mem c }
def St.set (σ : St) (x : Str) (v : Val) : St := { σ with loc := fun y => if y = x then some v else σ.loc y }

theorem St.put_mem (σ : St) (a : Addr) (b : Box) (c : Addr) : (σ.put a b).mem c = if c = a then some b else σ.mem c := rfl
theorem St.put_loc (σ : St) (a : Addr) (b : Box) : (σ.put a b).loc = σ.loc := rfl
theorem St.set_mem (σ : St) (x : Str) (v : Val) : (σ.set x v).mem = σ.mem := rfl
theorem St.set_loc (σ : St) (x : Str) (v : Val) (y : Str) : (σ.set x v).loc y = if y = x then some v else σ.loc y := rfl

/-! Contexts -/
structure Base where
  prog : Program
  w : World
  h₁ : Heap
  os : OsState
  mg : Str → Option Value
  mb : Str → Option Value

structure Base.Ok (B : Base) : Prop where
  g : B.h₁.Ns mainGlobals B.mg
  b : B.h₁.Ns builtinsNs B.mb
  boot : ∀ x, x ≠ ("__name__" : Str) → B.mb x = bootBuiltins x
  lim : B.h₁.NoLimit

structure Fm where
  L : Addr
  cells : List (Str × Addr)
  own : List Addr
  qual : Str
  func : Option Addr
  code : Value
  frame : Option Addr

def Fm.env (f : Fm) (sc : Scope) : Env :=
  { scope := sc, locals := f.L, globals := mainGlobals, cells := f.cells, qual := f.qual, func := f.func, code := f.code, frame := f.frame, builtins := builtinsNs }

structure Cx where
  B : Base
  A : Around
  f : Fm
  sc : Scope

abbrev Cx.env (X : Cx) : Env := X.f.env X.sc
abbrev Cx.M (X : Cx) : Model := model X.B.prog X.B.w

structure Cx.Ok (X : Cx) (n : Nat) : Prop where
  base : X.B.Ok
  kind : X.sc.kind = .function
  handled : X.A.handled = none
  depth : X.A.depth + n < recursionLimit
  units : X.A.units + 10 * n + 100 < cLine
  newL : X.B.h₁.get? X.f.L = none
  cellNew : ∀ c ∈ X.f.own, X.B.h₁.get? c = none ∧ c ≠ X.f.L
  cellInj : ∀ x y c, X.f.cells.lookup x = some c → X.f.cells.lookup y = some c → x = y

def IsBox (B : Base) (h : Heap) (mem : Mem) (a : Addr) : Box → Prop
  | .list vs => ∃ items n, IsL h a (List.toArray items) n ∧ RVs h mem items vs
  | .dict kvs => ∃ kvs' : List (Int × Value), h.DictOf (intKind B.prog B.w) a kvs' ∧ kvs'.map (·.1) = kvs.map (·.1) ∧ RVs h mem (kvs'.map (·.2)) (kvs.map (·.2))

def EnvOk (X : Cx) (σ : St) (h : Heap) : Prop :=
  ∃ m, h.Ns X.f.L m ∧ σ.mem X.f.L = none ∧
  (∀ c, (c ∈ X.f.own ∨ ∃ x, (x, c) ∈ X.f.cells) → σ.mem c = none ∧ ∃ v, h.IsCell c v) ∧
  (∀ x V, σ.loc x = some V → (x == ("__debug__" : Str)) = false ∧ ∃ v, RV h σ.mem v V ∧
    ((X.env.kindOf x = some .local ∧ m x = some v) ∨
     (∃ c, X.f.cells.lookup x = some c ∧ h.IsCell c (some v) ∧ σ.mem c = none ∧
       (X.env.kindOf x = some .cell ∨ (X.env.kindOf x = some .free ∧ (x == ("__classdict__" : Str)) = false)))))

structure Rep (X : Cx) (σ : St) (s : Shared) : Prop where
  keep : ∀ b o, X.B.h₁.get? b = some o → s.heap.get? b = some o
  gens : s.gens = #[]
  os : s.os = X.B.os
  mem : ∀ a bx, σ.mem a = some bx → X.B.h₁.get? a = none ∧ IsBox X.B s.heap σ.mem a bx
  env : EnvOk X σ s.heap

structure Ext (X : Cx) (σ : St) (s : Shared) (σ' : St) (s' : Shared) : Prop where
  keep : ∀ b o, s.heap.get? b = some o → σ.mem b = none → b ≠ X.f.L → b ∉ X.f.own → s'.heap.get? b = some o
  mem : ∀ b o, s.heap.get? b = some o → σ.mem b = none → σ'.mem b = none
  live : ∀ b o, s.heap.get? b = some o → ∃ o', s'.heap.get? b = some o'

end Mine
end
section
open PySem PySem.W PyProof.Rows
namespace Mine

section
variable {X : Cx} {σ σ' σ'' : St} {s s' s'' : Shared} {h' : Heap} {t : Nat} {a : Addr} {bx bx' : Box}

theorem isSeq_L {h : Heap} {a : Addr} {items : Array Value} {n : Nat} (e : IsL h a items n) {o : Obj} (ho : h.get? a = some o) : isSeqObj o := by
  rw [e] at ho; cases ho; exact ⟨_, _, rfl⟩

theorem IsBox.live {B : Base} {h : Heap} {mem : Mem} (b : IsBox B h mem a bx) : ∃ o, h.get? a = some o ∧ (isSeqObj o ∨ ∃ es n, o.data = .dict es n) := by
  cases bx with
  | list vs => obtain ⟨items, n, e, _⟩ := b; exact ⟨_, e, .inl ⟨_, _, rfl⟩⟩
  | dict kvs => obtain ⟨kvs', ⟨o, es, ep, ho, _, hd, _⟩, _⟩ := b; exact ⟨o, ho, .inr ⟨es, ep, hd⟩⟩

theorem IsBox.mono {B : Base} {h h' : Heap} {mem mem' : Mem} (hk : ∀ b o, h.get? b = some o → mem b = none → isSeqObj o → h'.get? b = some o ∧ mem' b = none)
    (ha : ∀ o, h.get? a = some o → h'.get? a = some o) (b : IsBox B h mem a bx) : IsBox B h' mem' a bx := by
  cases bx with
  | list vs => obtain ⟨items, n, e, r⟩ := b; exact ⟨items, n, ha _ e, r.mono hk⟩
  | dict kvs =>
    obtain ⟨kvs', ⟨o, es, ep, ho, r⟩, e1, e2⟩ := b
    exact ⟨kvs', ⟨o, es, ep, ha _ ho, r⟩, e1, e2.mono hk⟩

/-- the cells and the frame, known again in a heap that keeps them -/
theorem EnvOk.mono {h h' : Heap} (hk : ∀ b o, h.get? b = some o → σ.mem b = none → isSeqObj o → h'.get? b = some o ∧ σ'.mem b = none)
    (hL : ∀ o, h.get? X.f.L = some o → h'.get? X.f.L = some o) (hc : ∀ c v, h.IsCell c v → σ.mem c = none → h'.IsCell c v ∧ σ'.mem c = none)
    (hL' : σ'.mem X.f.L = none) (hloc : ∀ x V, σ'.loc x = some V → σ.loc x = some V) (e : EnvOk X σ h) : EnvOk X σ' h' := by
  obtain ⟨m, hn, _, ho, hl⟩ := e
  refine ⟨m, hn.at' hL, hL', fun c hm => ?_, fun x V hx => ?_⟩
  · obtain ⟨q, v, hv⟩ := ho c hm
    have := hc c v hv q
    exact ⟨this.2, v, this.1⟩
  · obtain ⟨hd, v, rv, hh⟩ := hl x V (hloc x V hx)
    refine ⟨hd, v, rv.mono hk, hh.imp id ?_⟩
    rintro ⟨c, e1, e2, e3, e4⟩
    have := hc c _ e2 e3
    exact ⟨c, e1, this.1, this.2, e4⟩

theorem Rep.isL (R : Rep X σ s) {vs : List Val} (h : σ.mem a = some (.list vs)) : ∃ items n, IsL s.heap a (List.toArray items) n ∧ RVs s.heap σ.mem items vs := (R.mem a _ h).2

theorem Rep.live (R : Rep X σ s) (h : σ.mem a = some bx) : ∃ o, s.heap.get? a = some o := let ⟨o, e, _⟩ := (R.mem a _ h).2.live; ⟨o, e⟩

theorem Rep.fresh (R : Rep X σ s) (h : s.heap.get? a = none) : σ.mem a = none ∧ X.B.h₁.get? a = none := by
  refine ⟨?_, ?_⟩
  · cases e : σ.mem a with
    | none => rfl
    | some bx => obtain ⟨o, ho⟩ := R.live e; rw [h] at ho; cases ho
  · cases e : X.B.h₁.get? a with
    | none => rfl
    | some o => rw [R.keep _ _ e] at h; cases h

theorem Rep.locals_ne (R : Rep X σ s) {o : Obj} (ho : s.heap.get? a = some o) (hd : ∀ es n, o.data ≠ .dict es n) : a ≠ X.f.L := by
  rintro rfl
  obtain ⟨m, ⟨o', es, ep, h1, h2, _⟩, _⟩ := R.env
  rw [ho] at h1; cases h1; exact hd _ _ h2
theorem Rep.own_ne (R : Rep X σ s) {o : Obj} (ho : s.heap.get? a = some o) (hd : ∀ v, o.data ≠ .cell v) : a ∉ X.f.own := by
  intro hm
  obtain ⟨m, _, _, hc, _⟩ := R.env
  obtain ⟨_, v, o', h1, h2⟩ := hc a (.inl hm)
  rw [ho] at h1; cases h1; exact hd _ h2
theorem seq_no_dict {o : Obj} (h : isSeqObj o) (es n) : o.data ≠ .dict es n := by obtain ⟨i, k, e⟩ := h; rw [e]; nofun
theorem seq_no_cell {o : Obj} (h : isSeqObj o) (v) : o.data ≠ .cell v := by obtain ⟨i, k, e⟩ := h; rw [e]; nofun

/-! Ext -/
theorem Ext.refl : Ext X σ s σ s := ⟨fun _ _ e _ _ _ => e, fun _ _ _ e => e, fun _ o e => ⟨o, e⟩⟩
theorem Ext.seq (R : Rep X σ s) (x : Ext X σ s σ' s') : ∀ b o, s.heap.get? b = some o → σ.mem b = none → isSeqObj o → s'.heap.get? b = some o ∧ σ'.mem b = none :=
  fun b o e m q => ⟨x.keep b o e m (R.locals_ne e (seq_no_dict q)) (R.own_ne e (seq_no_cell q)), x.mem b o e m⟩
theorem Ext.rv (x : Ext X σ s σ' s') (R : Rep X σ s) {v : Value} {V : Val} (r : RV s.heap σ.mem v V) : RV s'.heap σ'.mem v V := r.mono (x.seq R)
theorem Ext.rvs (x : Ext X σ s σ' s') (R : Rep X σ s) {v : List Value} {V : List Val} (r : RVs s.heap σ.mem v V) : RVs s'.heap σ'.mem v V := r.mono (x.seq R)
theorem Ext.trans (x : Ext X σ s σ' s') (R' : Rep X σ' s') (y : Ext X σ' s' σ'' s'') : Ext X σ s σ'' s'' := by
  refine ⟨fun b o e m hL ho => y.keep b o (x.keep b o e m hL ho) (x.mem b o e m) hL ho, fun b o e m => ?_, fun b o e => let ⟨o', e'⟩ := x.live b o e; y.live b o' e'⟩
  by_cases hL : b = X.f.L
  · have h1 := x.mem b o e m
    obtain ⟨m', ⟨o', _, _, h2, _⟩, _⟩ := R'.env
    exact y.mem b o' (hL ▸ h2) h1
  · by_cases ho : b ∈ X.f.own
    · have h1 := x.mem b o e m
      obtain ⟨m', _, _, hc, _⟩ := R'.env
      obtain ⟨_, v, o', h2, _⟩ := hc b (.inl ho)
      exact y.mem b o' h2 h1
    · exact y.mem b o (x.keep b o e m hL ho) (x.mem b o e m)

/-- nothing written, things may be new -/
theorem Rep.grow (R : Rep X σ s) (hk : ∀ b o, s.heap.get? b = some o → h'.get? b = some o) : Rep X σ { s with heap := h', toks := t } ∧ Ext X σ s σ { s with heap := h', toks := t } := by
  refine ⟨⟨fun b o e => hk b o (R.keep b o e), R.gens, R.os, fun a bx e => ⟨(R.mem a bx e).1, (R.mem a bx e).2.mono (fun b o e m _ => ⟨hk b o e, m⟩) (hk a)⟩, ?_⟩, ⟨fun b o e _ _ _ => hk b o e, fun _ _ _ e => e, fun b o e => ⟨o, hk b o e⟩⟩⟩
  exact R.env.mono (fun b o e m _ => ⟨hk b o e, m⟩) (hk _) (fun c v ⟨o, e, d⟩ m => ⟨⟨o, hk _ _ e, d⟩, m⟩) (let ⟨_, _, q, _⟩ := R.env; q) (fun _ _ e => e)

theorem Rep.toks (R : Rep X σ s) : Rep X σ { s with toks := t } ∧ Ext X σ s σ { s with toks := t } := R.grow (h' := s.heap) fun _ _ e => e

/-- a thing of the walk's own (an iterator) is written -/
theorem Rep.touch (R : Rep X σ s) {W : Addr → Prop} (hk : ∀ b o, ¬ W b → s.heap.get? b = some o → h'.get? b = some o)
    (hW : ∀ b, W b → X.B.h₁.get? b = none ∧ b ≠ X.f.L ∧ σ.mem b = none ∧ ∀ o, s.heap.get? b = some o → ¬ isSeqObj o ∧ ∀ v, o.data ≠ .cell v) :
    Rep X σ { s with heap := h', toks := t } := by
  have ks : ∀ b o, s.heap.get? b = some o → σ.mem b = none → isSeqObj o → h'.get? b = some o ∧ σ.mem b = none :=
    fun b o e m q => ⟨hk b o (fun w => ((hW b w).2.2.2 o e).1 q) e, m⟩
  refine ⟨fun b o e => hk b o (fun w => ?_) (R.keep b o e), R.gens, R.os, fun a bx e => ⟨(R.mem a bx e).1, (R.mem a bx e).2.mono ks fun o e' => hk a o (fun w => ?_) e'⟩, ?_⟩
  · rw [(hW b w).1] at e; cases e
  · rw [(hW a w).2.2.1] at e; cases e
  · exact R.env.mono ks (fun o e => hk _ o (fun w => (hW _ w).2.1 rfl) e) (fun c v ⟨o, e, d⟩ m => ⟨⟨o, hk _ _ (fun w => ((hW _ w).2.2.2 o e).2 _ d) e, d⟩, m⟩) (let ⟨_, _, q, _⟩ := R.env; q) (fun _ _ e => e)

/-- a new tracked thing -/
theorem Rep.new (R : Rep X σ s) (ha : s.heap.get? a = none) (hk : ∀ b o, s.heap.get? b = some o → h'.get? b = some o) (hb : IsBox X.B h' (σ.put a bx).mem a bx) :
    Rep X (σ.put a bx) { s with heap := h', toks := t } ∧ Ext X σ s (σ.put a bx) { s with heap := h', toks := t } := by
  have ne : ∀ b o, s.heap.get? b = some o → b ≠ a := fun b o e q => by rw [q, ha] at e; cases e
  have pm : ∀ b o, s.heap.get? b = some o → σ.mem b = none → (σ.put a bx).mem b = none := fun b o e m => by rw [St.put_mem, if_neg (ne b o e)]; exact m
  refine ⟨⟨fun b o e => hk b o (R.keep b o e), R.gens, R.os, fun c bc e => ?_, ?_⟩, ⟨fun b o e _ _ _ => hk b o e, pm, fun b o e => ⟨o, hk b o e⟩⟩⟩
  · rw [St.put_mem] at e
    split at e
    · rename_i q; subst q; cases e; exact ⟨(R.fresh ha).2, hb⟩
    · exact ⟨(R.mem c bc e).1, (R.mem c bc e).2.mono (fun b o e m _ => ⟨hk b o e, pm b o e m⟩) (hk c)⟩
  · refine R.env.mono (fun b o e m _ => ⟨hk b o e, pm b o e m⟩) (hk _) (fun c v ⟨o, e, d⟩ m => ⟨⟨o, hk _ _ e, d⟩, pm _ _ e m⟩) ?_ (fun _ _ e => e)
    obtain ⟨m, ⟨o', _, _, h1, _⟩, q, _⟩ := R.env
    exact pm _ _ h1 q

/-- a tracked thing is written -/
theorem Rep.upd (R : Rep X σ s) (ha : σ.mem a = some bx) (hk : ∀ b o, b ≠ a → s.heap.get? b = some o → h'.get? b = some o) (hb : IsBox X.B h' (σ.put a bx').mem a bx') :
    Rep X (σ.put a bx') { s with heap := h', toks := t } ∧ Ext X σ s (σ.put a bx') { s with heap := h', toks := t } := by
  have pm : ∀ b, σ.mem b = none → b ≠ a ∧ (σ.put a bx').mem b = none := fun b m => by
    have : b ≠ a := fun q => by rw [q, ha] at m; cases m
    exact ⟨this, by rw [St.put_mem, if_neg this]; exact m⟩
  have ks : ∀ b o, s.heap.get? b = some o → σ.mem b = none → isSeqObj o → h'.get? b = some o ∧ (σ.put a bx').mem b = none :=
    fun b o e m _ => ⟨hk b o (pm b m).1 e, (pm b m).2⟩
  refine ⟨⟨fun b o e => hk b o (fun q => ?_) (R.keep b o e), R.gens, R.os, fun c bc e => ?_, ?_⟩, ⟨fun b o e m _ _ => hk b o (pm b m).1 e, fun b o _ m => (pm b m).2, fun b o e => ?_⟩⟩
  · have := (R.mem a bx ha).1; rw [q, this] at e; cases e
  · rw [St.put_mem] at e
    split at e
    · rename_i q; subst q; cases e; exact ⟨(R.mem c bx ha).1, hb⟩
    · rename_i q
      exact ⟨(R.mem c bc e).1, (R.mem c bc e).2.mono ks (fun o e' => hk c o q e')⟩
  · obtain ⟨m, ⟨o', _, _, h1, _⟩, q, _⟩ := id R.env
    exact R.env.mono ks (fun o e => hk _ o (pm _ q).1 e) (fun c v ⟨o, e, d⟩ m => ⟨⟨o, hk _ _ (pm c m).1 e, d⟩, (pm c m).2⟩) (pm _ q).2 (fun _ _ e => e)
  · by_cases q : b = a
    · obtain ⟨o', e', _⟩ := hb.live; exact ⟨o', q ▸ e'⟩
    · exact ⟨o, hk b o q e⟩

def St.drop (σ : St) (a : Addr) : St := { σ with mem := fun c => if c = a then none else σ.mem c }
theorem St.drop_mem (σ : St) (a c : Addr) : (σ.drop a).mem c = if c = a then none else σ.mem c := rfl
theorem St.drop_put (σ : St) (a : Addr) (b : Box) (h : σ.mem a = none) : (σ.put a b).drop a = σ := by
  cases σ with
  | mk mem loc =>
    simp only [St.drop, St.put]
    congr 1
    funext c
    by_cases hc : c = a
    · subst hc; simp at h; simp [h]
    · simp [hc]

/-- less is known of the memory -/
theorem Rep.less (R : Rep X σ s) {σ' : St} (hm : ∀ a bx, σ'.mem a = some bx → σ.mem a = some bx) (hl : ∀ x V, σ'.loc x = some V → σ.loc x = some V) : Rep X σ' s := by
  have nn : ∀ b, σ.mem b = none → σ'.mem b = none := fun b m => by
    cases e : σ'.mem b with
    | none => rfl
    | some bx => rw [hm b bx e] at m; cases m
  refine ⟨R.keep, R.gens, R.os, fun a bx e => ⟨(R.mem a bx (hm a bx e)).1, (R.mem a bx (hm a bx e)).2.mono (fun b o e m _ => ⟨e, nn b m⟩) fun _ e => e⟩, ?_⟩
  exact R.env.mono (fun b o e m _ => ⟨e, nn b m⟩) (fun _ e => e) (fun c v e m => ⟨e, nn c m⟩) (let ⟨_, _, q, _⟩ := R.env; nn _ q) hl

theorem Ext.less (x : Ext X σ s σ' s') {σ'' : St} (hm : ∀ a bx, σ''.mem a = some bx → σ'.mem a = some bx) : Ext X σ s σ'' s' :=
  ⟨x.keep, fun b o e m => by
    cases q : σ''.mem b with
    | none => rfl
    | some bx => exact absurd ((x.mem b o e m).symm.trans (hm b bx q)) nofun, x.live⟩

theorem Rep.frozen (R : Rep X σ s) {vs : List Val} (h : σ.mem a = some (.list vs)) : RV s.heap (σ.drop a).mem (.ref a) (.lst vs) := by
  obtain ⟨items, n, e, r⟩ := R.isL h
  refine .lst e (by simp [St.drop_mem]) (r.mono fun b o e m _ => ⟨e, ?_⟩)
  rw [St.drop_mem]; split <;> trivial

/-- a name is bound -/
theorem Rep.setL (R : Rep X σ s) {m : Str → Option Value} {x : Str} {v : Value} {V : Val} (hm : s.heap.Ns X.f.L m)
    (hmm : ∀ y W, σ.loc y = some W → (y == ("__debug__" : Str)) = false ∧ ∃ v, RV s.heap σ.mem v W ∧
      ((X.env.kindOf y = some .local ∧ m y = some v) ∨ (∃ c, X.f.cells.lookup y = some c ∧ s.heap.IsCell c (some v) ∧ σ.mem c = none ∧
       (X.env.kindOf y = some .cell ∨ (X.env.kindOf y = some .free ∧ (y == ("__classdict__" : Str)) = false)))))
    (hk : X.env.kindOf x = some .local) (hd : (x == ("__debug__" : Str)) = false) (rv : RV s.heap σ.mem v V) (newL : X.B.h₁.get? X.f.L = none)
    (hn : h'.Ns X.f.L (fun y => if y = x then some v else m y)) (hs : Heap.SameBut X.f.L s.heap h') :
    Rep X (σ.set x V) { s with heap := h', toks := t } ∧ Ext X σ s (σ.set x V) { s with heap := h', toks := t } := by
  obtain ⟨m', hn', hL, hc, _⟩ := id R.env
  have kp : ∀ b o, b ≠ X.f.L → s.heap.get? b = some o → h'.get? b = some o := fun b o q e => hs.extBut b o q e
  have ks : ∀ b o, s.heap.get? b = some o → σ.mem b = none → isSeqObj o → h'.get? b = some o ∧ σ.mem b = none :=
    fun b o e m q => ⟨kp b o (R.locals_ne e (seq_no_dict q)) e, m⟩
  have kc : ∀ c v, s.heap.IsCell c v → h'.IsCell c v := fun c v ⟨o, e, d⟩ => ⟨o, kp _ _ (R.locals_ne e (fun es n q => by rw [d] at q; cases q)) e, d⟩
  refine ⟨⟨fun b o e => kp b o (fun q => by rw [q, newL] at e; cases e) (R.keep b o e), R.gens, R.os, fun a bx e => ⟨(R.mem a bx e).1, (R.mem a bx e).2.mono ks fun o e' => kp a o (fun q => ?_) e'⟩, ?_⟩,
    ⟨fun b o e _ q _ => kp b o q e, fun _ _ _ e => e, fun b o e => ?_⟩⟩
  · rw [q] at e; exact absurd (hL.symm.trans e) nofun
  · refine ⟨_, hn, hL, fun c hm' => ⟨(hc c hm').1, let ⟨v, hv⟩ := (hc c hm').2; ⟨v, kc c v hv⟩⟩, fun y W hy => ?_⟩
    rw [St.set_loc] at hy
    by_cases q : y = x
    · subst q
      rw [if_pos rfl] at hy; cases hy
      exact ⟨hd, v, rv.mono ks, .inl ⟨hk, by simp⟩⟩
    · rw [if_neg q] at hy
      obtain ⟨h1, u, ru, h2⟩ := hmm y W hy
      refine ⟨h1, u, ru.mono ks, ?_⟩
      rcases h2 with ⟨k1, k2⟩ | ⟨c, e1, e2, e3⟩
      · exact .inl ⟨k1, by simp [q, k2]⟩
      · exact .inr ⟨c, e1, kc _ _ e2, e3⟩
  · by_cases q : b = X.f.L
    · obtain ⟨o', _, _, e', _⟩ := hn; exact ⟨o', q ▸ e'⟩
    · exact ⟨o, kp b o q e⟩

theorem Rep.setC (R : Rep X σ s) {x : Str} {v : Value} {V : Val} {c : Addr} {v₀ : Option Value}
    (hk : X.env.kindOf x = some .cell) (hc : X.f.cells.lookup x = some c) (ho : c ∈ X.f.own) (inj : ∀ x y c, X.f.cells.lookup x = some c → X.f.cells.lookup y = some c → x = y)
    (hd : (x == ("__debug__" : Str)) = false) (rv : RV s.heap σ.mem v V) (newC : X.B.h₁.get? c = none)
    (h0 : s.heap.IsCell c v₀) (hn : h'.IsCell c (some v)) (hs : Heap.SameBut c s.heap h') :
    Rep X (σ.set x V) { s with heap := h', toks := t } ∧ Ext X σ s (σ.set x V) { s with heap := h', toks := t } := by
  obtain ⟨m, hm, hL, hcs, hl⟩ := id R.env
  obtain ⟨oc, hoc, hdc⟩ := h0
  have kp : ∀ b o, b ≠ c → s.heap.get? b = some o → h'.get? b = some o := fun b o q e => hs.extBut b o q e
  have cs : ∀ b o, s.heap.get? b = some o → isSeqObj o → b ≠ c := fun b o e q z => by rw [z, hoc] at e; cases e; exact seq_no_cell q _ hdc
  have ks : ∀ b o, s.heap.get? b = some o → σ.mem b = none → isSeqObj o → h'.get? b = some o ∧ σ.mem b = none := fun b o e m q => ⟨kp b o (cs b o e q) e, m⟩
  have hLc : X.f.L ≠ c := fun q => R.locals_ne hoc (fun es n z => by rw [hdc] at z; cases z) q.symm
  refine ⟨⟨fun b o e => kp b o (fun q => by rw [q, newC] at e; cases e) (R.keep b o e), R.gens, R.os, fun a bx e => ⟨(R.mem a bx e).1, (R.mem a bx e).2.mono ks fun o e' => kp a o (fun q => ?_) e'⟩, ?_⟩,
    ⟨fun b o e _ _ q => kp b o (fun z => q (z ▸ ho)) e, fun _ _ _ e => e, fun b o e => ?_⟩⟩
  · rw [q] at e; exact absurd ((hcs c (.inl ho)).1.symm.trans e) nofun
  · refine ⟨m, hm.at' fun o e => kp _ o hLc e, hL, fun d hd' => ⟨(hcs d hd').1, ?_⟩, fun y W hy => ?_⟩
    · by_cases q : d = c
      · subst q; exact ⟨_, hn⟩
      · obtain ⟨v', o', e', d'⟩ := (hcs d hd').2; exact ⟨v', o', kp _ _ q e', d'⟩
    · rw [St.set_loc] at hy
      by_cases q : y = x
      · subst q
        rw [if_pos rfl] at hy; cases hy
        exact ⟨hd, v, rv.mono ks, .inr ⟨c, hc, hn, (hcs c (.inl ho)).1, .inl hk⟩⟩
      · rw [if_neg q] at hy
        obtain ⟨h1, u, ru, h2⟩ := hl y W hy
        refine ⟨h1, u, ru.mono ks, ?_⟩
        rcases h2 with k | ⟨d, e1, ⟨o', e', d'⟩, e3⟩
        · exact .inl k
        · exact .inr ⟨d, e1, ⟨o', kp _ _ (fun z => q (inj _ _ _ e1 (z ▸ hc))) e', d'⟩, e3⟩
  · by_cases q : b = c
    · obtain ⟨o', e', _⟩ := hn; exact ⟨o', q ▸ e'⟩
    · exact ⟨o, kp b o q e⟩
end

/-! Triples -/
def Ta {α β : Type} (X : Cx) (rel : Heap → Mem → α → β → Prop) (t : Sem α) (σ : St) (s : Shared) (Q : β → St → Prop) : Prop :=
  wpAny X.M X.A t (fun a s' => ∃ b σ', rel s'.heap σ'.mem a b ∧ Rep X σ' s' ∧ Ext X σ s σ' s' ∧ Q b σ') (fun _ _ => False) s
def T {α β : Type} (X : Cx) (rel : Heap → Mem → α → β → Prop) (t : Sem α) (σ : St) (Q : β → St → Prop) : Prop := ∀ s, Rep X σ s → Ta X rel t σ s Q

section
variable {α β γ δ : Type} {X : Cx} {rel : Heap → Mem → α → β → Prop} {rel' : Heap → Mem → γ → δ → Prop} {σ : St} {s : Shared}

theorem Ta.bind {t : Sem α} {f : α → Sem γ} {P : β → St → Prop} {Q : δ → St → Prop} (h : Ta X rel t σ s P)
    (k : ∀ a b σ' s', rel s'.heap σ'.mem a b → Rep X σ' s' → Ext X σ s σ' s' → P b σ' → Ta X rel' (f a) σ' s' Q) : Ta X rel' (t >>= f) σ s Q := by
  refine wpAny_bind (wpAny_mono h (fun a s' hh => ?_) fun _ _ e => e)
  obtain ⟨b, σ', hr, R, x, hp⟩ := hh
  refine wpAny_mono (k a b σ' s' hr R x hp) (fun c s'' hh => ?_) fun _ _ e => e
  obtain ⟨d, σ'', hr', R', x', hq⟩ := hh
  exact ⟨d, σ'', hr', R', x.trans R x', hq⟩

theorem Ta.mono {t : Sem α} {P Q : β → St → Prop} (h : Ta X rel t σ s P) (k : ∀ b σ', P b σ' → Q b σ') : Ta X rel t σ s Q :=
  wpAny_mono h (fun _ _ ⟨b, σ', hr, R, x, hp⟩ => ⟨b, σ', hr, R, x, k b σ' hp⟩) fun _ _ e => e
theorem T.mono {t : Sem α} {P Q : β → St → Prop} (h : T X rel t σ P) (k : ∀ b σ', P b σ' → Q b σ') : T X rel t σ Q := fun s R => (h s R).mono k

theorem Ta.pure {a : α} {b : β} {Q : β → St → Prop} (R : Rep X σ s) (hr : rel s.heap σ.mem a b) (h : Q b σ) : Ta X rel (pure a) σ s Q :=
  wpAny_pure ⟨b, σ, hr, R, .refl, h⟩

/-- what a walked tree is worth where the state has moved on without a trace -/
theorem Ta.then {t : Sem α} {P : β → St → Prop} {σ' : St} {s' : Shared} (h : Ta X rel t σ' s' P) (R' : Rep X σ' s') (x : Ext X σ s σ' s') :
    wpAny X.M X.A t (fun a s'' => ∃ b σ'', rel s''.heap σ''.mem a b ∧ Rep X σ'' s'' ∧ Ext X σ s σ'' s'' ∧ P b σ'') (fun _ _ => False) s' :=
  wpAny_mono h (fun _ _ ⟨b, σ'', hr, R'', x'', hp⟩ => ⟨b, σ'', hr, R'', x.trans R' x'', hp⟩) fun _ _ e => e
end

inductive Fl where
  | next | brk | cont
  | ret (v : Val)

inductive RF (h : Heap) (mem : Mem) : Flow → Fl → Prop
  | next : RF h mem .next .next
  | brk : RF h mem .brk .brk
  | cont : RF h mem .cont .cont
  | ret {v : Value} {V : Val} : RV h mem v V → RF h mem (.ret v) (.ret V)

abbrev eqR {α : Type} : Heap → Mem → α → α → Prop := fun _ _ a b => a = b

abbrev AE (X : Cx) (e : Expr) (σ : St) (Q : Val → St → Prop) : Prop := T X RV (eval e X.env) σ Q
abbrev AT (X : Cx) (e : Expr) (σ : St) (Q : Bool → St → Prop) : Prop := T X (eqR (α := Bool)) (isTrue e X.env (eval e X.env)) σ Q
abbrev AX (X : Cx) (st : Stmt) (σ : St) (Q : Fl → St → Prop) : Prop := T X RF (exec st X.env) σ Q
abbrev AS (X : Cx) (ss : List Stmt) (σ : St) (Q : Fl → St → Prop) : Prop := T X RF (execs ss X.env) σ Q

end Mine
end
section
open PySem PySem.W PyProof.Rows PySem.Calls
namespace Mine
theorem sz {n : Nat} (h : n ≤ 16777216) : n ≤ sizeLine := Nat.le_trans h (by decide)

section
variable {X : Cx} {σ : St} {s : Shared} {n : Nat} {Q : Val → St → Prop}

theorem AE_int {i : Int} {k : Nat} {pos : Pos} (h : Q (.int i) σ) : AE X (.Constant (.int i) k pos) σ Q := fun s R => by
  have g := R.toks (t := s.toks + 1)
  exact wpAny_Constant_int ⟨_, σ, .int _ _, g.1, g.2, h⟩
theorem AE_none {k : Nat} {pos : Pos} (h : Q .none σ) : AE X (.Constant .none k pos) σ Q := fun _ R => wpAny_Constant_none ⟨_, σ, .none, R, .refl, h⟩
theorem AE_bool {b : Bool} {k : Nat} {pos : Pos} (h : Q (.bool b) σ) : AE X (.Constant (.bool b) k pos) σ Q := fun _ R => wpAny_Constant_bool ⟨_, σ, .bool b, R, .refl, h⟩
theorem AE_str {x : Str} {k : Nat} {pos : Pos} (h : Q (.str x) σ) : AE X (.Constant (.str x) k pos) σ Q := fun s R => by
  have g := R.toks (t := s.toks + 1)
  exact wpAny_Constant_str ⟨_, σ, .str _ _, g.1, g.2, h⟩

theorem load_name (ok : X.Ok n) (R : Rep X σ s) {x : Str} {V : Val} (hx : σ.loc x = some V) {E : Value → Shared → Prop} {P : Value → Shared → Prop} (h : ∀ v, RV s.heap σ.mem v V → P v s) :
    wpAny X.M X.A (loadName X.env x) P E s := by
  obtain ⟨m, hn, _, _, hl⟩ := R.env
  obtain ⟨_, v, rv, hh⟩ := hl x V hx
  rcases hh with ⟨hk, hm⟩ | ⟨c, hc, hv, _, hk | ⟨hk, hcd⟩⟩
  · exact wpAny_loadName_local ok.kind hk hn hm (h v rv)
  · exact wpAny_loadName_cell ok.kind hk hc hv (h v rv)
  · exact wpAny_loadName_free ok.kind hk hc hv (h v rv) hcd

theorem AE_name (ok : X.Ok n) {x : Str} {pos : Pos} {V : Val} (hx : σ.loc x = some V) (h : Q V σ) : AE X (.Name x pos) σ Q := fun s R => by
  have hd : (x == ("__debug__" : Str)) = false := by
    obtain ⟨m, hn, _, _, hl⟩ := R.env
    exact (hl x V hx).1
  exact wpAny_Name (load_name ok R hx fun v rv => ⟨V, σ, rv, R, .refl, h⟩) hd

/-! operators -/
def Op2 (X : Cx) (op : Operator) (a b : Val) (σ : St) (Q : Val → St → Prop) : Prop :=
  ∀ s va vb, Rep X σ s → RV s.heap σ.mem va a → RV s.heap σ.mem vb b → Ta X RV (binaryOp op va vb) σ s Q
def Iop2 (X : Cx) (op : Operator) (a b : Val) (σ : St) (Q : Val → St → Prop) : Prop :=
  ∀ s va vb, Rep X σ s → RV s.heap σ.mem va a → RV s.heap σ.mem vb b → Ta X RV (inplaceOp op va vb) σ s Q
def Cmp2 (X : Cx) (op : CmpOp) (a b : Val) (σ : St) (Q : Bool → St → Prop) : Prop :=
  ∀ s va vb, Rep X σ s → RV s.heap σ.mem va a → RV s.heap σ.mem vb b → Ta X RV (compareOp op va vb) σ s (fun V σ' => ∃ b, V = .bool b ∧ Q b σ')

theorem AE_bin {l r : Expr} {op : Operator} {pos : Pos} (h : AE X l σ (fun a σ1 => AE X r σ1 (fun b σ2 => Op2 X op a b σ2 Q))) : AE X (.BinOp l op r pos) σ Q := fun s R => by
  refine wpAny_BinOp (wpAny_mono (h s R) ?_ fun _ _ e => e)
  rintro va s1 ⟨a, σ1, ra, R1, x1, hk⟩
  refine wpAny_mono (hk s1 R1) ?_ fun _ _ e => e
  rintro vb s2 ⟨b, σ2, rb, R2, x2, hk2⟩
  exact (hk2 s2 va vb R2 (x2.rv R1 ra) rb).then R2 (x1.trans R1 x2)

theorem RV.int_inv {h : Heap} {mem : Mem} {v : Value} {i : Int} (r : RV h mem v (.int i)) : ∃ t, v = .int i t := by cases r; exact ⟨_, rfl⟩
theorem RV.bool_inv {h : Heap} {mem : Mem} {v : Value} {b : Bool} (r : RV h mem v (.bool b)) : v = .bool b := by cases r; rfl
theorem RV.none_inv {h : Heap} {mem : Mem} {v : Value} (r : RV h mem v .none) : v = .none := by cases r; rfl

section
variable {i j : Int}
theorem toksQ {V : Val} (R : Rep X σ s) {k : Nat} {v : Value} (rv : RV s.heap σ.mem v V) (h : Q V σ) : ∃ b σ', RV ({ s with toks := k } : Shared).heap σ'.mem v b ∧ Rep X σ' { s with toks := k } ∧ Ext X σ s σ' { s with toks := k } ∧ Q b σ' :=
  ⟨V, σ, rv, (R.toks (t := k)).1, (R.toks (t := k)).2, h⟩

theorem Op_add (h : Q (.int (i + j)) σ) : Op2 X .Add (.int i) (.int j) σ Q := fun s va vb R ra rb => by
  obtain ⟨t, rfl⟩ := ra.int_inv; obtain ⟨u, rfl⟩ := rb.int_inv
  exact PyProof.Rows.add_int (toksQ R (.int _ _) h)
theorem Op_sub (h : Q (.int (i - j)) σ) : Op2 X .Sub (.int i) (.int j) σ Q := fun s va vb R ra rb => by
  obtain ⟨t, rfl⟩ := ra.int_inv; obtain ⟨u, rfl⟩ := rb.int_inv
  exact PyProof.Rows.sub_int (toksQ R (.int _ _) h)
theorem Op_mul (hm : IntMulOk i j) (h : Q (.int (i * j)) σ) : Op2 X .Mult (.int i) (.int j) σ Q := fun s va vb R ra rb => by
  obtain ⟨t, rfl⟩ := ra.int_inv; obtain ⟨u, rfl⟩ := rb.int_inv
  exact PyProof.Rows.mul_int (toksQ R (.int _ _) h) hm
theorem Op_mod (hj : j ≠ 0) (h : Q (.int (i.fmod j)) σ) : Op2 X .Mod (.int i) (.int j) σ Q := fun s va vb R ra rb => by
  obtain ⟨t, rfl⟩ := ra.int_inv; obtain ⟨u, rfl⟩ := rb.int_inv
  exact PyProof.Rows.mod_int' hj (toksQ R (.int _ _) h)
theorem Op_div (hj : j ≠ 0) (hp : Builtin.divisionGoesByPylong i j = false) (h : Q (.int (i.fdiv j)) σ) : Op2 X .FloorDiv (.int i) (.int j) σ Q := fun s va vb R ra rb => by
  obtain ⟨t, rfl⟩ := ra.int_inv; obtain ⟨u, rfl⟩ := rb.int_inv
  exact PyProof.Rows.floordiv_int hj (toksQ R (.int _ _) h) (.inl hp)
theorem Op_pow (hj : 0 ≤ j) (hj2 : j ≤ 1000000) (hi : i.natAbs < 2 ^ 64) (h : Q (.int (i ^ j.toNat)) σ) : Op2 X .Pow (.int i) (.int j) σ Q := fun s va vb R ra rb => by
  obtain ⟨t, rfl⟩ := ra.int_inv; obtain ⟨u, rfl⟩ := rb.int_inv
  exact PyProof.Rows.pow_int_small hj hj2 hi (toksQ R (.int _ _) h)
theorem Op_rshift (hj : 0 ≤ j) (h : Q (.int (i.fdiv (2 ^ j.toNat))) σ) : Op2 X .RShift (.int i) (.int j) σ Q := fun s va vb R ra rb => by
  obtain ⟨t, rfl⟩ := ra.int_inv; obtain ⟨u, rfl⟩ := rb.int_inv
  exact PyProof.Rows.rshift_int hj (toksQ R (.int _ _) h)
theorem Op_and (h : Q (.int (Builtin.bitAnd i j)) σ) : Op2 X .BitAnd (.int i) (.int j) σ Q := fun s va vb R ra rb => by
  obtain ⟨t, rfl⟩ := ra.int_inv; obtain ⟨u, rfl⟩ := rb.int_inv
  exact PyProof.Rows.and_int (toksQ R (.int _ _) h)
theorem Iop_add (h : Q (.int (i + j)) σ) : Iop2 X .Add (.int i) (.int j) σ Q := fun s va vb R ra rb => by
  obtain ⟨t, rfl⟩ := ra.int_inv; obtain ⟨u, rfl⟩ := rb.int_inv
  exact PyProof.Rows.iadd_int (toksQ R (.int _ _) h)
theorem Iop_sub (h : Q (.int (i - j)) σ) : Iop2 X .Sub (.int i) (.int j) σ Q := fun s va vb R ra rb => by
  obtain ⟨t, rfl⟩ := ra.int_inv; obtain ⟨u, rfl⟩ := rb.int_inv
  exact PyProof.Rows.isub_int (toksQ R (.int _ _) h)
end

/-! comparisons of ints, of None -/
section
variable {i j : Int} {P : Bool → St → Prop}
theorem boolQ (R : Rep X σ s) {b : Bool} (h : P b σ) : ∃ (V : Val) (σ' : St), RV s.heap σ'.mem (.bool b) V ∧ Rep X σ' s ∧ Ext X σ s σ' s ∧ ∃ c, V = .bool c ∧ P c σ' :=
  ⟨_, σ, .bool b, R, .refl, b, rfl, h⟩
theorem Cmp_lt (h : P (decide (i < j)) σ) : Cmp2 X .Lt (.int i) (.int j) σ P := fun s va vb R ra rb => by
  obtain ⟨t, rfl⟩ := ra.int_inv; obtain ⟨u, rfl⟩ := rb.int_inv
  exact PyProof.Rows.lt_int (boolQ R h)
theorem Cmp_gt (h : P (decide (j < i)) σ) : Cmp2 X .Gt (.int i) (.int j) σ P := fun s va vb R ra rb => by
  obtain ⟨t, rfl⟩ := ra.int_inv; obtain ⟨u, rfl⟩ := rb.int_inv
  exact PyProof.Rows.gt_int (boolQ R h)
theorem Cmp_ge (h : P (decide (j ≤ i)) σ) : Cmp2 X .GtE (.int i) (.int j) σ P := fun s va vb R ra rb => by
  obtain ⟨t, rfl⟩ := ra.int_inv; obtain ⟨u, rfl⟩ := rb.int_inv
  exact PyProof.Rows.ge_int (boolQ R h)
theorem Cmp_le (h : P (decide (i ≤ j)) σ) : Cmp2 X .LtE (.int i) (.int j) σ P := fun s va vb R ra rb => by
  obtain ⟨t, rfl⟩ := ra.int_inv; obtain ⟨u, rfl⟩ := rb.int_inv
  exact PyProof.Rows.le_int (boolQ R h)
theorem Cmp_eq (h : P (decide (i = j)) σ) : Cmp2 X .Eq (.int i) (.int j) σ P := fun s va vb R ra rb => by
  obtain ⟨t, rfl⟩ := ra.int_inv; obtain ⟨u, rfl⟩ := rb.int_inv
  refine PyProof.Rows.eq_int (boolQ R ?_)
  rwa [show (i == j) = decide (i = j) from by by_cases h : i = j <;> simp [h]]
theorem Cmp_ne (h : P (decide (i ≠ j)) σ) : Cmp2 X .NotEq (.int i) (.int j) σ P := fun s va vb R ra rb => by
  obtain ⟨t, rfl⟩ := ra.int_inv; obtain ⟨u, rfl⟩ := rb.int_inv
  refine PyProof.Rows.ne_int (boolQ R ?_)
  rwa [show (i != j) = decide (i ≠ j) from by by_cases h : i = j <;> simp [h]]
def Val.isNone : Val → Bool
  | .none => true
  | _ => false
theorem RV.isNone {h : Heap} {mem : Mem} {v : Value} {V : Val} (r : RV h mem v V) : (v == Value.none) = V.isNone := by cases r <;> rfl
theorem Cmp_is {V : Val} (h : P V.isNone σ) : Cmp2 X .Is V .none σ P := fun s va vb R ra rb => by
  obtain rfl := rb.none_inv
  refine is_none (boolQ R ?_)
  rwa [ra.isNone]
theorem Cmp_isnot {V : Val} (h : P (!V.isNone) σ) : Cmp2 X .IsNot V .none σ P := fun s va vb R ra rb => by
  obtain rfl := rb.none_inv
  refine isNot_none (boolQ R ?_)
  rwa [ra.isNone]
end

theorem AE_cmp {l r : Expr} {op : CmpOp} {pos : Pos} (hm : behindInMarks op r = false) (h : AE X l σ (fun a σ1 => AE X r σ1 (fun b σ2 => Cmp2 X op a b σ2 (fun b σ3 => Q (.bool b) σ3)))) : AE X (.Compare l [op] [r] pos) σ Q := fun s R => by
  refine wpAny_Compare1 (wpAny_mono (h s R) ?_ fun _ _ e => e) hm
  rintro va s1 ⟨a, σ1, ra, R1, x1, hk⟩
  refine wpAny_mono (hk s1 R1) ?_ fun _ _ e => e
  rintro vb s2 ⟨b, σ2, rb, R2, x2, hk2⟩
  refine wpAny_mono ((hk2 s2 va vb R2 (x2.rv R1 ra) rb).then R2 (x1.trans R1 x2)) ?_ fun _ _ e => e
  rintro v s3 ⟨V, σ3, rv, R3, x3, c, rfl, q⟩
  exact ⟨_, σ3, rv, R3, x3, q⟩

section
variable {P : Bool → St → Prop}
theorem AT_cmp {l r : Expr} {op : CmpOp} {pos : Pos} (hm : behindInMarks op r = false) (h : AE X l σ (fun a σ1 => AE X r σ1 (fun b σ2 => Cmp2 X op a b σ2 P))) : AT X (.Compare l [op] [r] pos) σ P := fun s R => by
  refine wpAny_isTrue_Compare1 (wpAny_mono (h s R) ?_ fun _ _ e => e) hm
  rintro va s1 ⟨a, σ1, ra, R1, x1, hk⟩
  refine wpAny_mono (hk s1 R1) ?_ fun _ _ e => e
  rintro vb s2 ⟨b, σ2, rb, R2, x2, hk2⟩
  refine wpAny_mono ((hk2 s2 va vb R2 (x2.rv R1 ra) rb).then R2 (x1.trans R1 x2)) ?_ fun _ _ e => e
  rintro v s3 ⟨V, σ3, rv, R3, x3, c, rfl, q⟩
  obtain rfl := rv.bool_inv
  exact wpAny_truthy_bool ⟨c, σ3, rfl, R3, x3, q⟩

/-- a chain of two -/
theorem AT_chain {l r r' : Expr} {op op' : CmpOp} {pos : Pos} (hm : lastMarks [op, op'] [r, r'] = false)
    (h : AE X l σ (fun a σ1 => AE X r σ1 (fun b σ2 => Cmp2 X op a b σ2 (fun t σ3 => (t = true → AE X r' σ3 (fun c σ4 => Cmp2 X op' b c σ4 P)) ∧ (t = false → P false σ3))))) :
    AT X (.Compare l [op, op'] [r, r'] pos) σ P := fun s R => by
  refine isTrue_chain (wpAny_mono (h s R) ?_ fun _ _ e => e) hm
  rintro va s1 ⟨a, σ1, ra, R1, x1, hk⟩
  refine test_link (wpAny_mono (hk s1 R1) ?_ fun _ _ e => e)
  rintro vb s2 ⟨b, σ2, rb, R2, x2, hk2⟩
  refine wpAny_mono ((hk2 s2 va vb R2 (x2.rv R1 ra) rb)) ?_ fun _ _ e => e
  rintro v s3 ⟨V, σ3, rv, R3, x3, c, rfl, q⟩
  obtain rfl := rv.bool_inv
  have x03 := (x1.trans R1 x2).trans R2 x3
  refine wpAny_truthy_bool ?_
  cases c with
  | false => exact ⟨false, σ3, rfl, R3, x03, q.2 rfl⟩
  | true =>
    refine test_last (wpAny_mono (q.1 rfl s3 R3) ?_ fun _ _ e => e)
    rintro vc s4 ⟨c, σ4, rc, R4, x4, hk4⟩
    refine wpAny_mono ((hk4 s4 vb vc R4 (x4.rv R3 (x3.rv R2 rb)) rc).then R4 (x03.trans R3 x4)) ?_ fun _ _ e => e
    rintro v s5 ⟨V, σ5, rv, R5, x5, d, rfl, q⟩
    obtain rfl := rv.bool_inv
    exact wpAny_truthy_bool ⟨d, σ5, rfl, R5, x5, q⟩

theorem AT_not {e : Expr} {pos : Pos} (h : AT X e σ (fun b σ1 => P (!b) σ1)) : AT X (.UnaryOp .Not e pos) σ P := fun s R => by
  refine wpAny_isTrue_Not (wpAny_mono (h s R) ?_ fun _ _ e => e)
  rintro b s1 ⟨c, σ1, rfl, R1, x1, q⟩
  exact ⟨_, σ1, rfl, R1, x1, q⟩
theorem AT_and {x y : Expr} {pos : Pos} (h : AT X x σ (fun b σ1 => (b = true → AT X y σ1 P) ∧ (b = false → P false σ1))) : AT X (.BoolOp .And [x, y] pos) σ P := fun s R => by
  refine wpAny_isTrue_BoolOp (wpAny_allTrue_And_cons (wpAny_mono (h s R) ?_ fun _ _ e => e))
  rintro b s1 ⟨c, σ1, rfl, R1, x1, q⟩
  cases b with
  | false => exact ⟨false, σ1, rfl, R1, x1, q.2 rfl⟩
  | true =>
    refine wpAny_allTrue_And_cons (wpAny_mono ((q.1 rfl s1 R1).then R1 x1) ?_ fun _ _ e => e)
    rintro b s2 ⟨c, σ2, rfl, R2, x2, q⟩
    cases b with
    | false => exact ⟨false, σ2, rfl, R2, x2, q⟩
    | true => exact wpAny_allTrue_And_nil ⟨true, σ2, rfl, R2, x2, q⟩
theorem AT_or {x y : Expr} {pos : Pos} (h : AT X x σ (fun b σ1 => (b = true → P true σ1) ∧ (b = false → AT X y σ1 P))) : AT X (.BoolOp .Or [x, y] pos) σ P := fun s R => by
  refine wpAny_isTrue_BoolOp (wpAny_allTrue_Or_cons (wpAny_mono (h s R) ?_ fun _ _ e => e))
  rintro b s1 ⟨c, σ1, rfl, R1, x1, q⟩
  cases b with
  | true => exact ⟨true, σ1, rfl, R1, x1, q.1 rfl⟩
  | false =>
    refine wpAny_allTrue_Or_cons (wpAny_mono ((q.2 rfl s1 R1).then R1 x1) ?_ fun _ _ e => e)
    rintro b s2 ⟨c, σ2, rfl, R2, x2, q⟩
    cases b with
    | true => exact ⟨true, σ2, rfl, R2, x2, q⟩
    | false => exact wpAny_allTrue_Or_nil ⟨false, σ2, rfl, R2, x2, q⟩

/-- a plain value's truth -/
def Tru (X : Cx) (a : Val) (σ : St) (P : Bool → St → Prop) : Prop := ∀ s va, Rep X σ s → RV s.heap σ.mem va a → Ta X (eqR (α := Bool)) (truthy va) σ s P
theorem AT_val {e : Expr} (h : AE X e σ (fun a σ1 => Tru X a σ1 P))
    (he : ∀ whole, PySem.isTrue e X.env whole = (do let v ← whole; standAt e.pos; holding [v] (truthy v))) : AT X e σ P := fun s R => by
  refine wpAny_isTrue_value (wpAny_mono (h s R) ?_ fun _ _ e => e) (he _)
  rintro va s1 ⟨a, σ1, ra, R1, x1, hk⟩
  exact (hk s1 va R1 ra).then R1 x1
theorem Tru_bool {b : Bool} (h : P b σ) : Tru X (.bool b) σ P := fun s va R ra => by
  obtain rfl := ra.bool_inv
  exact wpAny_truthy_bool ⟨b, σ, rfl, R, .refl, h⟩
end

theorem AE_neg {e : Expr} {pos : Pos} (h : AE X e σ (fun a σ1 => ∃ i, a = .int i ∧ Q (.int (-i)) σ1)) : AE X (.UnaryOp .USub e pos) σ Q := fun s R => by
  refine wpAny_UnaryOp (wpAny_mono (h s R) ?_ fun _ _ e => e)
  rintro va s1 ⟨a, σ1, ra, R1, x1, i, rfl, q⟩
  obtain ⟨t, rfl⟩ := ra.int_inv
  refine P.neg_int ?_
  exact ⟨_, σ1, .int _ _, (R1.toks (t := _)).1, x1.trans R1 (R1.toks (t := _)).2, q⟩

theorem AE_ifexp {t b o : Expr} {pos : Pos} (h : AT X t σ (fun c σ1 => (c = true → AE X b σ1 Q) ∧ (c = false → AE X o σ1 Q))) : AE X (.IfExp t b o pos) σ Q := fun s R => by
  refine wpAny_IfExp (wpAny_mono (h s R) ?_ fun _ _ e => e)
  rintro c s1 ⟨d, σ1, rfl, R1, x1, q⟩
  cases c with
  | true => exact (q.1 rfl s1 R1).then R1 x1
  | false => exact (q.2 rfl s1 R1).then R1 x1
end

/-! several expressions -/
def AEs (X : Cx) (pos : Pos) (es : List Expr) (σ : St) (Q : List Val → St → Prop) : Prop := T X RVs (spliced (backTo pos (starEach es X.env))) σ Q
section
variable {X : Cx} {σ : St} {n : Nat} {pos : Pos}
theorem AEs_nil {Q : List Val → St → Prop} (h : Q [] σ) : AEs X pos [] σ Q := fun _ R => wpAny_items_nil ⟨_, σ, .nil, R, .refl, h⟩
theorem AEs_cons {e : Expr} {rest : List Expr} {Q : List Val → St → Prop} (he : starEach (e :: rest) X.env = (false, eval e X.env) :: starEach rest X.env)
    (h : AE X e σ (fun V σ1 => AEs X pos rest σ1 (fun Vs σ2 => Q (V :: Vs) σ2))) : AEs X pos (e :: rest) σ Q := fun s R => by
  refine wpAny_items_cons (wpAny_mono (h s R) ?_ fun _ _ e => e) he
  rintro v s1 ⟨V, σ1, rv, R1, x1, hk⟩
  refine wpAny_mono (hk s1 R1) ?_ fun _ _ e => e
  rintro vs s2 ⟨Vs, σ2, rvs, R2, x2, q⟩
  exact ⟨_, σ2, .cons (x2.rv R1 rv) rvs, R2, x1.trans R1 x2, q⟩

theorem AE_tuple {es : List Expr} {k : Nat} {Q : Val → St → Prop} (h : AEs X pos es σ (fun Vs σ1 => Vs.length ≤ 16777216 ∧ Q (.tup Vs) σ1)) : AE X (.Tuple es k pos) σ Q := fun s R => by
  refine wpAny_Tuple (wpAny_mono (h s R) ?_ fun _ _ e => e)
  rintro vs s1 ⟨Vs, σ1, rvs, R1, x1, hl, q⟩
  refine ⟨by rw [rvs.length]; exact hl, ?_⟩
  have fr : s1.heap.get? s1.heap.objs.size = none := by
    cases e : s1.heap.get? s1.heap.objs.size with
    | none => rfl
    | some o => exact absurd (Heap.lt_size e) (Nat.lt_irrefl _)
  have g := R1.grow (h' := s1.heap.push { cls := .type "tuple", data := .seq vs.toArray }) (t := s1.toks) fun b o e => Heap.get?_push_of_some _ e
  exact ⟨_, σ1, .tup (n := 0) (Heap.get?_push_size _ rfl) (R1.fresh fr).1 (g.2.rvs R1 rvs), g.1, x1.trans R1 g.2, q⟩
end

/-! new lists: tracked, then frozen -/
def AN (X : Cx) (e : Expr) (σ : St) (Q : Val → St → Prop) : Prop := T X RV (eval e X.env) σ Q

theorem heap_top_none (h : Heap) : h.get? h.objs.size = none := by
  cases e : h.get? h.objs.size with
  | none => rfl
  | some o => exact absurd (Heap.lt_size e) (Nat.lt_irrefl _)

/-- a list that was just made at a: how the states go on, tracked -/
theorem made_tracked {X : Cx} {σ : St} {s : Shared} {h' : Heap} {t : Nat} {a : Addr} {items : List Value} {k : Nat} {Vs : List Val} (R : Rep X σ s) (ha : s.heap.get? a = none)
    (hk : ∀ b o, s.heap.get? b = some o → h'.get? b = some o) (hl : IsL h' a items.toArray k) (rvs : RVs s.heap σ.mem items Vs) :
    σ.mem a = none ∧ Rep X (σ.put a (.list Vs)) { s with heap := h', toks := t } ∧ Ext X σ s (σ.put a (.list Vs)) { s with heap := h', toks := t } := by
  refine ⟨(R.fresh ha).1, R.new ha hk ⟨items, k, hl, rvs.mono fun b o e m _ => ⟨hk b o e, ?_⟩⟩⟩
  rw [St.put_mem, if_neg (fun q => by rw [q, ha] at e; cases e)]; exact m
theorem made_frozen {X : Cx} {σ : St} {s : Shared} {h' : Heap} {t : Nat} {a : Addr} {items : List Value} {k : Nat} {Vs : List Val} (R : Rep X σ s) (ha : s.heap.get? a = none)
    (hk : ∀ b o, s.heap.get? b = some o → h'.get? b = some o) (hl : IsL h' a items.toArray k) (rvs : RVs s.heap σ.mem items Vs) :
    RV h' σ.mem (.ref a) (.lst Vs) ∧ Rep X σ { s with heap := h', toks := t } ∧ Ext X σ s σ { s with heap := h', toks := t } := by
  have g := R.grow (t := t) hk
  exact ⟨.lst hl (R.fresh ha).1 (g.2.rvs R rvs), g⟩

/-- the two ways to take a new list: kept to be written, or not -/
inductive Made (σ : St) (Vs : List Val) (Q : Val → St → Prop) : Prop
  | frozen (h : Q (.lst Vs) σ) : Made σ Vs Q
  | tracked (h : ∀ a, σ.mem a = none → Q (.ref a) (σ.put a (.list Vs))) : Made σ Vs Q

theorem Made.take {X : Cx} {σ : St} {s : Shared} {h' : Heap} {t : Nat} {a : Addr} {items : List Value} {k : Nat} {Vs : List Val} {Q : Val → St → Prop} (M : Made σ Vs Q) (R : Rep X σ s) (ha : s.heap.get? a = none)
    (hk : ∀ b o, s.heap.get? b = some o → h'.get? b = some o) (hl : IsL h' a items.toArray k) (rvs : RVs s.heap σ.mem items Vs) :
    ∃ V σ', RV h' σ'.mem (.ref a) V ∧ Rep X σ' { s with heap := h', toks := t } ∧ Ext X σ s σ' { s with heap := h', toks := t } ∧ Q V σ' := by
  cases M with
  | frozen h => obtain ⟨r, g⟩ := made_frozen (t := t) R ha hk hl rvs; exact ⟨_, σ, r, g.1, g.2, h⟩
  | tracked h => obtain ⟨m, g⟩ := made_tracked (t := t) R ha hk hl rvs; exact ⟨_, _, .ref a, g.1, g.2, h a m⟩

section
variable {X : Cx} {σ : St} {n : Nat} {pos : Pos} {Q : Val → St → Prop}
theorem AE_list {es : List Expr} (h : AEs X pos es σ (fun Vs σ1 => Vs.length ≤ 16777216 ∧ Made σ1 Vs Q)) : AE X (.List es pos) σ Q := fun s R => by
  refine wpAny_List (wpAny_mono (h s R) ?_ fun _ _ e => e)
  rintro vs s1 ⟨Vs, σ1, rvs, R1, x1, hl, q⟩
  refine ⟨by rw [rvs.length]; exact hl, ?_⟩
  obtain ⟨V, σ', r, R', x', q'⟩ := q.take (t := s1.toks) R1 (heap_top_none _) (fun b o e => Heap.get?_push_of_some _ e) (Heap.get?_push_size (o := { cls := .type "list", data := .seq vs.toArray }) _ rfl) rvs
  exact ⟨V, σ', r, R', x1.trans R1 x', q'⟩
end

/-! lists, seen through -/
def SeqOf (σ : St) (V : Val) (vs : List Val) : Prop := V = .lst vs ∨ ∃ a, V = .ref a ∧ σ.mem a = some (.list vs)
theorem SeqOf.lst {σ : St} {vs : List Val} : SeqOf σ (.lst vs) vs := .inl rfl
theorem SeqOf.ref {σ : St} {a : Addr} {vs : List Val} (h : σ.mem a = some (.list vs)) : SeqOf σ (.ref a) vs := .inr ⟨a, rfl, h⟩
theorem SeqOf.open {X : Cx} {σ : St} {s : Shared} {V : Val} {vs : List Val} (q : SeqOf σ V vs) (R : Rep X σ s) {v : Value} (r : RV s.heap σ.mem v V) :
    ∃ a items k, v = .ref a ∧ IsL s.heap a (List.toArray items) k ∧ RVs s.heap σ.mem items vs := by
  rcases q with rfl | ⟨a, rfl, h⟩
  · cases r with
    | lst e m r => exact ⟨_, _, _, rfl, e, r⟩
  · cases r with
    | ref a => obtain ⟨items, k, e, r⟩ := R.isL h; exact ⟨a, items, k, rfl, e, r⟩
theorem RV.tup_inv {h : Heap} {mem : Mem} {v : Value} {vs : List Val} (r : RV h mem v (.tup vs)) : ∃ a items k, v = .ref a ∧ IsT h a (List.toArray items) k ∧ mem a = Option.none ∧ RVs h mem items vs := by
  cases r with
  | tup e m r => exact ⟨_, _, _, rfl, e, m, r⟩

section
variable {X : Cx} {σ : St} {n : Nat} {pos : Pos} {Q : Val → St → Prop}

theorem Op_addList {A B : Val} {as bs : List Val} (ha : SeqOf σ A as) (hb : SeqOf σ B bs) (hl : as.length + bs.length ≤ 16777216) (h : Made σ (as ++ bs) Q) : Op2 X .Add A B σ Q := fun s va vb R ra rb => by
  obtain ⟨a, ia, ka, rfl, ea, rva⟩ := ha.open R ra
  obtain ⟨b, ib, kb, rfl, eb, rvb⟩ := hb.open R rb
  refine P.add_list ea eb ?_ (sz (by simpa [rva.length, rvb.length] using hl))
  exact h.take (t := s.toks) R (heap_top_none _) (fun b o e => Heap.get?_push_of_some _ e) (items := ia ++ ib) (k := 0)
    (by simpa using Heap.get?_push_size (o := { cls := .type "list", data := .seq (ia.toArray ++ ib.toArray) }) s.heap rfl) (rva.append rvb)

/-! subscripts -/
theorem AE_sub {v i : Expr} (hs : ∀ o x, subscripted i false o x = operate [o, x] (getItem o x))
    (h : AE X v σ (fun a σ1 => AE X i σ1 (fun b σ2 => ∃ k V, b = .int k ∧
      ((∃ vs, SeqOf σ2 a vs ∧ ((0 ≤ k ∧ k < 2 ^ 63 ∧ vs[k.toNat]? = some V) ∨ (k < 0 ∧ -(2 ^ 63) ≤ k ∧ -(vs.length : Int) ≤ k ∧ vs[(k + vs.length).toNat]? = some V))) ∨
       (∃ vs j, a = .tup vs ∧ -(2 ^ 63) ≤ k ∧ k < 2 ^ 63 ∧ seqIndex? k vs.length = some j ∧ vs[j]? = some V)) ∧ Q V σ2))) : AE X (.Subscript v i pos) σ Q := fun s R => by
  refine Subscript_ (wpAny_mono (h s R) ?_ fun _ _ e => e)
  rintro va s1 ⟨a, σ1, ra, R1, x1, hk⟩
  refine wpAny_mono (hk s1 R1) ?_ fun _ _ e => e
  rintro vb s2 ⟨b, σ2, rb, R2, x2, k, V, rfl, hh, q⟩
  obtain ⟨t, rfl⟩ := rb.int_inv
  have ra2 := x2.rv R1 ra
  have x12 := x1.trans R1 x2
  rcases hh with ⟨vs, hsq, hh⟩ | ⟨vs, j, rfl, h1, h2, h3, h4⟩
  · obtain ⟨a, ia, ka, rfl, ea, rva⟩ := hsq.open R2 ra2
    rcases hh with ⟨h0, h1, h2⟩ | ⟨h0, h1, h2, h3⟩
    · obtain ⟨v, hv, rv⟩ := rva.get h2
      exact tail_any (PySem.IsL.isList ea).typeIs slot_list_getitem.lookup (wpAny_getItem_list (PySem.IsL.isList ea) h0 h1 (by simpa using hv) ⟨V, σ2, rv, R2, x12, q⟩) (hs _ _)
    · obtain ⟨v, hv, rv⟩ := rva.get h3
      exact tail_any (PySem.IsL.isList ea).typeIs slot_list_getitem.lookup (wpAny_getItem_list_neg (PySem.IsL.isList ea) h0 (by simpa [rva.length] using h2) h1 (by simpa [rva.length] using hv) ⟨V, σ2, rv, R2, x12, q⟩) (hs _ _)
  · obtain ⟨a, ia, ka, rfl, ea, _, rva⟩ := ra2.tup_inv
    obtain ⟨v, hv, rv⟩ := rva.get h4
    exact tail_any (T := "tuple") ⟨_, ea, rfl⟩ F.slot_tuple_getitem.lookup (P.getItem_tuple ea h1 h2 (by simpa [rva.length] using h3) (by simpa using hv) ⟨V, σ2, rv, R2, x12, q⟩) (hs _ _)
end

end Mine
end
section
open PySem PySem.W PyProof.Rows PySem.Calls
namespace Mine

/-! stores -/
abbrev trueR {α β : Type} : Heap → Mem → α → β → Prop := fun _ _ _ _ => True
def AG (X : Cx) (t : Expr) (V : Val) (σ : St) (Q : St → Prop) : Prop :=
  ∀ s v, Rep X σ s → RV s.heap σ.mem v V → Ta X (trueR (α := Unit) (β := Unit)) (assign t X.env v) σ s (fun _ σ' => Q σ')

section
variable {X : Cx} {σ : St} {n : Nat}

theorem store_local (ok : X.Ok n) {x : Str} {V : Val} {v : Value} {s : Shared} {Q : St → Prop} (hk : X.env.kindOf x = some .local) (hd : (x == ("__debug__" : Str)) = false)
    (R : Rep X σ s) (rv : RV s.heap σ.mem v V) (h : Q (σ.set x V)) : Ta X (trueR (α := Unit) (β := Unit)) (storeName X.env x v) σ s (fun _ σ' => Q σ') := by
  obtain ⟨m, hn, hL, hc, hl⟩ := id R.env
  refine wpAny_storeName_local hk hn (fun h' hn' hs' => ?_) (by show (X.sc.kind == .class || (X.sc.kind == .module && _)) = false; rw [ok.kind]; rfl)
  have g := R.setL (t := s.toks + 1) hn hl hk hd rv ok.newL hn' hs'
  exact ⟨(), _, trivial, g.1, g.2, h⟩

theorem store_cell (ok : X.Ok n) {x : Str} {V : Val} {v : Value} {s : Shared} {Q : St → Prop} {c : Addr} (hk : X.env.kindOf x = some .cell) (hc : X.f.cells.lookup x = some c) (ho : c ∈ X.f.own) (hd : (x == ("__debug__" : Str)) = false)
    (R : Rep X σ s) (rv : RV s.heap σ.mem v V) (h : Q (σ.set x V)) : Ta X (trueR (α := Unit) (β := Unit)) (storeName X.env x v) σ s (fun _ σ' => Q σ') := by
  obtain ⟨m, hn, hL, hcs, hl⟩ := id R.env
  obtain ⟨_, v₀, hv₀⟩ := hcs c (.inl ho)
  refine wpAny_storeName_cell ok.kind hk hc hv₀ fun h' hn' hs' => ?_
  have g := R.setC (t := s.toks) hk hc ho ok.cellInj hd rv (ok.cellNew c ho).1 hv₀ hn' hs'
  exact ⟨(), _, trivial, g.1, g.2, h⟩

/-- a name that may be written here -/
def Writes (X : Cx) (x : Str) : Prop := (x == ("__debug__" : Str)) = false ∧ (X.env.kindOf x = some .local ∨ (X.env.kindOf x = some .cell ∧ ∃ c, X.f.cells.lookup x = some c ∧ c ∈ X.f.own))

theorem store_name (ok : X.Ok n) {x : Str} {V : Val} {v : Value} {s : Shared} {Q : St → Prop} (hw : Writes X x)
    (R : Rep X σ s) (rv : RV s.heap σ.mem v V) (h : Q (σ.set x V)) : Ta X (trueR (α := Unit) (β := Unit)) (storeName X.env x v) σ s (fun _ σ' => Q σ') := by
  obtain ⟨hd, hk | ⟨hk, c, hc, ho⟩⟩ := hw
  · exact store_local ok hk hd R rv h
  · exact store_cell ok hk hc ho hd R rv h

theorem AG_name (ok : X.Ok n) {x : Str} {pos : Pos} {V : Val} {Q : St → Prop} (hw : Writes X x) (h : Q (σ.set x V)) : AG X (.Name x pos) V σ Q :=
  fun _ _ R rv => PySem.wpAny_assign_Name (store_name ok hw R rv h)

def AGs (X : Cx) : List Expr → List Val → St → (St → Prop) → Prop
  | [], [], σ, Q => Q σ
  | t :: ts, V :: Vs, σ, Q => AG X t V σ (fun σ' => AGs X ts Vs σ' Q)
  | _, _, _, _ => False

theorem AGs_run : ∀ (ts : List Expr) (Vs : List Val) (vs : List Value) (σ : St) (s : Shared) (Q : St → Prop), (∀ t ∈ ts, ∀ e p, t ≠ .Starred e p) → AGs X ts Vs σ Q → Rep X σ s → RVs s.heap σ.mem vs Vs →
    Ta X (trueR (α := Unit) (β := Unit)) (assignInOrder ((assignEach ts X.env).map (·.2)) vs) σ s (fun _ σ' => Q σ')
  | [], [], [], σ, s, Q, _, h, R, _ => by
    show Ta X _ (assignInOrder [] []) σ s _
    unfold assignInOrder
    exact Ta.pure (b := ()) R trivial h
  | [], _ :: _, _, _, _, _, _, h, _, _ => h.elim
  | _ :: _, [], _, _, _, _, _, h, _, _ => h.elim
  | t :: ts, V :: Vs, v :: vs, σ, s, Q, hst, h, R, rvs => by
    have he : assignEach (t :: ts) X.env = (false, assign t X.env) :: assignEach ts X.env := by
      cases t <;> first | rfl | exact absurd rfl (hst _ (.head _) _ _)
    rw [he]
    show Ta X _ (assignInOrder (assign t X.env :: (assignEach ts X.env).map (·.2)) (v :: vs)) σ s _
    unfold assignInOrder
    cases rvs with
    | cons rv rvs =>
      refine Ta.bind (rel := trueR (α := Unit) (β := Unit)) (wpAny_holding (h s v R rv)) fun _ _ σ' s' _ R' x' hk => ?_
      exact AGs_run ts Vs vs σ' s' Q (fun t ht => hst t (.tail _ ht)) hk R' (x'.rvs R rvs)
  | [], [], _ :: _, _, _, _, _, _, _, rvs => by cases rvs
  | _ :: _, _ :: _, [], _, _, _, _, _, _, rvs => by cases rvs

theorem assignEach_length (X : Cx) : ∀ ts : List Expr, (assignEach ts X.env).length = ts.length
  | [] => rfl
  | t :: ts => by cases t <;> simp [assignEach, assignEach_length X ts]
theorem assignEach_star (X : Cx) : ∀ ts : List Expr, (∀ t ∈ ts, ∀ e p, t ≠ .Starred e p) → (assignEach ts X.env).findIdx? (·.1) = none
  | [], _ => rfl
  | t :: ts, h => by
    have he : assignEach (t :: ts) X.env = (false, assign t X.env) :: assignEach ts X.env := by
      cases t <;> first | rfl | exact absurd rfl (h _ (.head _) _ _)
    rw [he, List.findIdx?_cons, assignEach_star X ts fun t ht => h t (.tail _ ht)]
    rfl

theorem AG_tuple (ok : X.Ok n) {ts : List Expr} {k : Nat} {pos : Pos} {Vs : List Val} {Q : St → Prop} (hst : ∀ t ∈ ts, ∀ e p, t ≠ .Starred e p) (hlen : ts.length = Vs.length) (h : AGs X ts Vs σ Q) : AG X (.Tuple ts k pos) (.tup Vs) σ Q := fun s v R rv => by
  obtain ⟨a, items, k', rfl, e, _, rvs⟩ := rv.tup_inv
  refine wpAny_assign_Tuple ok.handled ⟨_, e, rfl, _, rfl⟩ (by rw [assignEach_length, hlen, ← rvs.length]; simp) (assignEach_star X ts hst) fun h' hx => ?_
  have kp : ∀ b o, s.heap.get? b = some o → h'.get? b = some o := fun b o e => hx b o (fun q => by rw [q, heap_top_none] at e; cases e) e
  have g := R.grow (t := s.toks) kp
  exact (AGs_run ts Vs items σ _ Q hst h g.1 (g.2.rvs R rvs)).then g.1 g.2

/-- an item of a tracked list -/
theorem AG_item {o i : Expr} {pos : Pos} {V : Val} {Q : St → Prop}
    (h : AE X o σ (fun a σ1 => AE X i σ1 (fun b σ2 => ∃ l vs k, a = .ref l ∧ b = .int k ∧ σ2.mem l = some (.list vs) ∧
      ((0 ≤ k ∧ k < 2 ^ 63 ∧ k < vs.length ∧ Q (σ2.put l (.list (vs.set k.toNat V)))) ∨ (k < 0 ∧ -(2 ^ 63) ≤ k ∧ -(vs.length : Int) ≤ k ∧ Q (σ2.put l (.list (vs.set (k + vs.length).toNat V)))))))) :
    AG X (.Subscript o i pos) V σ Q := fun s v R rv => by
  show wpAny _ _ (assign (.Subscript o i pos) X.env v) _ _ s
  rw [assign_Subscript]
  refine wpAny_bind (wpAny_holding (wpAny_mono (h s R) ?_ fun _ _ e => e))
  rintro va s1 ⟨a, σ1, ra, R1, x1, hk⟩
  refine wpAny_bind (wpAny_holding (wpAny_mono (hk s1 R1) ?_ fun _ _ e => e))
  rintro vb s2 ⟨b, σ2, rb, R2, x2, l, vs, k, rfl, rfl, hm, hh⟩
  obtain ⟨t, rfl⟩ := rb.int_inv
  have rv2 := x2.rv R1 (x1.rv R rv)
  have x12 := x1.trans R1 x2
  have ra2 := x2.rv R1 ra
  obtain rfl : va = .ref l := by cases ra2; rfl
  obtain ⟨items, kk, e, rvs⟩ := R2.isL hm
  refine wpAny_bind (wpAny_standAt (wpAny_bind (wpAny_holding ?_)))
  have fin : ∀ (j : Nat) (h' : Heap), h' = s2.heap.update l (Obj.mapSeq (·.setIfInBounds j v)) → Q (σ2.put l (.list (vs.set j V))) →
      ∀ rl : List Value, wpAny X.M X.A (release rl []) (fun a s' => ∃ (b : Unit) (σ' : St), trueR s'.heap σ'.mem a b ∧ Rep X σ' s' ∧ Ext X σ s σ' s' ∧ Q σ') (fun _ _ => False) { s2 with heap := h' } := by
    intro j h' eh q rl
    subst eh
    have el := PySem.IsL.update e (·.setIfInBounds j v)
    have ee : items.toArray.setIfInBounds j v = (items.set j v).toArray := by simp
    rw [ee] at el
    have kp : ∀ b o, b ≠ l → s2.heap.get? b = some o → (s2.heap.update l (Obj.mapSeq (·.setIfInBounds j v))).get? b = some o := fun b o q e => (Heap.get?_update_other _ _ (Ne.symm q)).trans e
    have pm : ∀ b, σ2.mem b = none → b ≠ l := fun b m q => by rw [q, hm] at m; cases m
    have g := R2.upd (t := s2.toks) (bx' := .list (vs.set j V)) hm kp ⟨items.set j v, _, el, (RVs.set rvs rv2).mono fun b o e m _ => ⟨kp b o (pm b m) e, by rw [St.put_mem, if_neg (pm b m)]; exact m⟩⟩
    exact wpAny_release' ⟨(), _, trivial, g.1, x12.trans R2 g.2, q⟩
  rcases hh with ⟨h0, h1, h2, q⟩ | ⟨h0, h1, h2, q⟩
  · exact ki_setAt e h0 h1 (by simpa [rvs.length] using h2) (fin _ _ rfl q _)
  · refine ki_setBack e h0 (by simpa [rvs.length] using h2) h1 ?_
    rw [show ((items.toArray.size : Nat) : Int) = (vs.length : Int) from by simp [rvs.length]]
    exact fin _ _ rfl q _
end

/-! statements -/
section
variable {X : Cx} {σ : St} {n : Nat} {Q : Fl → St → Prop} {pos : Pos}

theorem AS_nil (h : Q .next σ) : AS X [] σ Q := fun _ R => wpAny_execs_nil ⟨_, σ, .next, R, .refl, h⟩
theorem AS_cons {st : Stmt} {rest : List Stmt} (h : AX X st σ (fun fl σ1 => match fl with | .next => AS X rest σ1 Q | fl => Q fl σ1)) : AS X (st :: rest) σ Q := fun s R => by
  refine wpAny_execs_cons (wpAny_mono (h s R) ?_ fun _ _ e => e)
  rintro f s1 ⟨fl, σ1, rf, R1, x1, hk⟩
  cases rf with
  | next => exact (hk s1 R1).then R1 x1
  | brk => exact ⟨_, σ1, .brk, R1, x1, hk⟩
  | cont => exact ⟨_, σ1, .cont, R1, x1, hk⟩
  | ret r => exact ⟨_, σ1, .ret r, R1, x1, hk⟩

theorem AX_assign {t v : Expr} (hs : swapsWithSole [t] v pos.line X.env = pure false) (hw : swappedStores [t] v X.env = pure none) (ht : (assignEach [t] X.env).map (·.2) = [assign t X.env])
    (h : AE X v σ (fun V σ1 => AG X t V σ1 (fun σ2 => Q .next σ2))) : AX X (.Assign [t] v pos) σ Q := fun s R => by
  refine wpAny_Assign_stores (wpAny_mono (h s R) ?_ fun _ _ e => e) hs hw
  rintro va s1 ⟨V, σ1, rv, R1, x1, hk⟩
  rw [ht]
  show wpAny _ _ (assign t X.env va) _ _ s1
  refine wpAny_mono ((hk s1 va R1 rv).then R1 x1) ?_ fun _ _ e => e
  rintro _ s2 ⟨_, σ2, _, R2, x2, q⟩
  exact ⟨_, σ2, .next, R2, x2, q⟩

theorem AX_aug (ok : X.Ok n) {x : Str} {p : Pos} {op : Operator} {v : Expr} {W : Val} (hx : σ.loc x = some W) (hw : Writes X x)
    (h : AE X v σ (fun V σ1 => Iop2 X op W V σ1 (fun U σ2 => Q .next (σ2.set x U)))) : AX X (.AugAssign (.Name x p) op v pos) σ Q := fun s R => by
  refine wpAny_AugAssign_Name (load_name ok R hx fun w rw => ?_)
  refine wpAny_mono (h s R) ?_ fun _ _ e => e
  rintro va s1 ⟨V, σ1, rv, R1, x1, hk⟩
  refine wpAny_mono ((hk s1 w va R1 (x1.rv R rw) rv).then R1 x1) ?_ fun _ _ e => e
  rintro u s2 ⟨U, σ2, ru, R2, x2, q⟩
  refine wpAny_mono ((store_name ok hw R2 ru q).then R2 x2) ?_ fun _ _ e => e
  rintro _ s3 ⟨_, σ3, _, R3, x3, q⟩
  exact ⟨_, σ3, .next, R3, x3, q⟩

theorem AX_expr {e : Expr} (hi : interactive X.env = false) (hs : swapsWith e none pos.line X.env = pure false) (h : AE X e σ (fun _ σ1 => Q .next σ1)) : AX X (.Expr e pos) σ Q := fun s R => by
  refine wpAny_Expr_any (wpAny_mono (h s R) ?_ fun _ _ e => e) hi hs
  rintro va s1 ⟨V, σ1, rv, R1, x1, q⟩
  exact ⟨_, σ1, .next, R1, x1, q⟩

theorem AX_if {t : Expr} {b o : List Stmt} (h : AT X t σ (fun c σ1 => (c = true → AS X b σ1 Q) ∧ (c = false → AS X o σ1 Q))) : AX X (.If t b o pos) σ Q := fun s R => by
  refine wpAny_If (wpAny_mono (h s R) ?_ fun _ _ e => e)
  rintro c s1 ⟨d, σ1, rfl, R1, x1, q⟩
  cases c with
  | true => exact (q.1 rfl s1 R1).then R1 x1
  | false => exact (q.2 rfl s1 R1).then R1 x1

theorem AX_ret {e : Expr} (h : AE X e σ (fun V σ1 => Q (.ret V) σ1)) : AX X (.Return (some e) pos) σ Q := fun s R => by
  refine wpAny_Return_some (wpAny_mono (h s R) ?_ fun _ _ e => e)
  rintro va s1 ⟨V, σ1, rv, R1, x1, q⟩
  exact ⟨_, σ1, .ret rv, R1, x1, q⟩
theorem AX_break (h : Q .brk σ) : AX X (.Break pos) σ Q := fun _ R => wpAny_Break ⟨_, σ, .brk, R, .refl, h⟩
theorem AX_continue (h : Q .cont σ) : AX X (.Continue pos) σ Q := fun _ R => wpAny_Continue ⟨_, σ, .cont, R, .refl, h⟩

theorem AX_while {t : Expr} {b : List Stmt} (I : Nat → St → Prop)
    (turn : ∀ n σ, I n σ → AT X t σ (fun c σ1 => (c = true → AS X b σ1 (fun fl σ2 => match fl with
      | .next => ∃ m, m < n ∧ I m σ2
      | .cont => ∃ m, m < n ∧ I m σ2
      | .brk => Q .next σ2
      | .ret v => Q (.ret v) σ2)) ∧ (c = false → Q .next σ1)))
    (n : Nat) (h : I n σ) : AX X (.While t b [] pos) σ Q := fun s R => by
  refine wpAny_While ?_
  refine codeAny_whileLoop (fun n s' => ∃ σ', Rep X σ' s' ∧ Ext X σ s σ' s' ∧ I n σ') ?_ n ⟨σ, R, .refl, h⟩
  rintro n s' ⟨σ', R', x', hI⟩
  refine wpAny_mono (turn n σ' hI s' R') ?_ fun _ _ e => e.elim
  rintro c s1 ⟨d, σ1, rfl, R1, x1, q⟩
  have x01 := x'.trans R' x1
  cases c with
  | false => exact wpAny_execs_nil ⟨_, σ1, .next, R1, x01, q.2 rfl⟩
  | true =>
    refine wpAny_mono (q.1 rfl s1 R1) ?_ fun _ _ e => e.elim
    rintro f s2 ⟨fl, σ2, rf, R2, x2, hk⟩
    have x02 := x01.trans R1 x2
    cases rf with
    | next => obtain ⟨m, hm, hI⟩ := hk; exact ⟨m, hm, σ2, R2, x02, hI⟩
    | cont => obtain ⟨m, hm, hI⟩ := hk; exact ⟨m, hm, σ2, R2, x02, hI⟩
    | brk => exact ⟨_, σ2, .next, R2, x02, hk⟩
    | ret r => exact ⟨_, σ2, .ret r, R2, x02, hk⟩
end

end Mine
end
section
open PySem PySem.W PyProof.Rows PySem.Calls
namespace Mine

/-! iterators -/
structure It (X : Cx) (tg : Expr) (I : Addr) (W : Addr → Prop) (S : Nat → St → Heap → Prop) (items : List Val) (stay : St → Prop) : Prop where
  frame : ∀ i σ s σ' s', S i σ s.heap → Rep X σ s → Ext X σ s σ' s' → Rep X σ' s' → stay σ' → S i σ' s'.heap
  turn : ∀ i σ s V, Rep X σ s → S i σ s.heap → items[i]? = some V →
    wpAny X.M X.A (pyNext (.ref I)) (fun r s1 => ∃ v, r = some v ∧ wpAny X.M X.A (letOwnedTupleGo tg (.ref I) v) (fun _ s2 => ∃ h' tk, s2 = { s with heap := h', toks := tk } ∧ Rep X σ s2 ∧ RV h' σ.mem v V ∧ S (i + 1) σ h' ∧
      (∀ b o, ¬ W b → s.heap.get? b = some o → h'.get? b = some o)) (fun _ _ => False) s1) (fun _ _ => False) s
  done : ∀ σ s, Rep X σ s → S items.length σ s.heap →
    wpAny X.M X.A (pyNext (.ref I)) (fun r s1 => r = none ∧ ∃ h' tk, s1 = { s with heap := h', toks := tk } ∧ Rep X σ s1 ∧ (∀ b o, ¬ W b → s.heap.get? b = some o → h'.get? b = some o)) (fun _ _ => False) s
  self : ∀ i σ s, S i σ s.heap → wpAny X.M X.A (pyIter (.ref I)) (fun v s' => v = .ref I ∧ s' = s) (fun _ _ => False) s

/-- an iterator that has just been made; it may be walked in any frame that it does not lie in -/
def Walking (X : Cx) (tg : Expr) (σ : St) (s : Shared) (K : List Val → (St → Prop) → St → Prop) (it : Value) (s2 : Shared) : Prop :=
  ∃ I W S items stay σ', it = .ref I ∧ (∀ X' : Cx, X'.B = X.B → X'.A = X.A → (∃ n, X'.Ok n) → (∀ b, W b → b ≠ X'.f.L ∧ b ∉ X'.f.own) → It X' tg I W S items stay) ∧ S 0 σ' s2.heap ∧ Rep X σ' s2 ∧ Ext X σ s σ' s2 ∧
    (∀ b, W b → s.heap.get? b = none ∧ b ≠ X.f.L ∧ b ∉ X.f.own ∧ ∃ o, s2.heap.get? b = some o ∧ ¬ isSeqObj o ∧ ∀ v, o.data ≠ .cell v) ∧ stay σ' ∧ K items stay σ'

def AI (X : Cx) (tg iter : Expr) (σ : St) (K : List Val → (St → Prop) → St → Prop) : Prop :=
  ∀ s, Rep X σ s → wpAny X.M X.A (eval iter X.env) (fun x s1 => wpAny X.M X.A (pyIter x) (fun it s2 => Walking X tg σ s K it s2) (fun _ _ => False) s1) (fun _ _ => False) s

def ForL (X : Cx) (tg : Expr) (body : List Stmt) (stay : St → Prop) (Q : Fl → St → Prop) : List Val → St → Prop
  | [], σ => Q .next σ
  | V :: r, σ => AG X tg V σ (fun σ1 => AS X body σ1 (fun fl σ2 => match fl with
      | .next => stay σ2 ∧ ForL X tg body stay Q r σ2
      | .cont => stay σ2 ∧ ForL X tg body stay Q r σ2
      | .brk => Q .next σ2
      | .ret v => Q (.ret v) σ2))

section
variable {X : Cx} {σ : St} {n : Nat} {pos : Pos}

/-- the walk's own writes do not touch what was there before it -/
theorem Ext.walked {σ σ' : St} {s s' : Shared} {h' : Heap} {tk : Nat} {W : Addr → Prop} (x : Ext X σ s σ' s') (hW : ∀ b, W b → s.heap.get? b = none) (hk : ∀ b o, ¬ W b → s'.heap.get? b = some o → h'.get? b = some o) :
    Ext X σ s σ' { s' with heap := h', toks := tk } :=
  ⟨fun b o e m hL ho => hk b o (fun w => by rw [hW b w] at e; cases e) (x.keep b o e m hL ho), x.mem, fun b o e => let ⟨o', e'⟩ := x.live b o e; ⟨o', hk b o' (fun w => by rw [hW b w] at e; cases e) e'⟩⟩

theorem drop_cons_of_get {α : Type} {l : List α} {i : Nat} (h : i < l.length) : l.drop i = l[i] :: l.drop (i + 1) := List.drop_eq_getElem_cons h

theorem AX_for (ok : X.Ok n) {tg iter : Expr} {body : List Stmt} {Q : Fl → St → Prop} (hs : ∀ x, foldedSetIterable iter X.env x = pure x)
    (h : AI X tg iter σ (fun items stay σ1 => ForL X tg body stay Q items σ1)) : AX X (.For tg iter body [] pos) σ Q := fun s R => by
  refine wpAny_For (wpAny_mono (h s R) ?_ fun _ _ e => e) hs
  intro x s1 h1
  refine wpAny_mono h1 ?_ fun _ _ e => e
  rintro it s2 ⟨I, W, S, items, stay, σ2, rfl, it, hS, R2, x2, hW', hst, hF⟩
  have hW : ∀ b, W b → s.heap.get? b = none := fun b w => (hW' b w).1
  replace it := it X rfl rfl ⟨n, ok⟩ fun b w => ⟨(hW' b w).2.1, (hW' b w).2.2.1⟩
  refine codeAny_forLoop_any (fun k s' => ∃ i σ', i ≤ items.length ∧ k = items.length + 1 - i ∧ Rep X σ' s' ∧ S i σ' s'.heap ∧ Ext X σ s σ' s' ∧ ForL X tg body stay Q (items.drop i) σ') ?_ (items.length + 1)
    ⟨0, σ2, Nat.zero_le _, rfl, R2, hS, x2, by simpa using hF⟩
  rintro k s' ⟨i, σ', hi, rfl, R', hS', x', hF'⟩
  by_cases hlt : i < items.length
  · have hV : items[i]? = some items[i] := List.getElem?_eq_getElem hlt
    rw [drop_cons_of_get hlt] at hF'
    refine wpAny_mono (it.turn i σ' s' _ R' hS' hV) ?_ fun _ _ e => e.elim
    rintro r s3 ⟨v, rfl, h3⟩
    refine wpAny_mono h3 ?_ fun _ _ e => e.elim
    rintro _ s4 ⟨h', tk, rfl, R4, rv, hS4, hk4⟩
    have x4 := x'.walked (tk := tk) hW hk4
    refine wpAny_mono (hF' _ v R4 rv) ?_ fun _ _ e => e.elim
    rintro _ s5 ⟨_, σ5, _, R5, x5, hb⟩
    refine wpAny_mono (hb s5 R5) ?_ fun _ _ e => e.elim
    rintro f s6 ⟨fl, σ6, rf, R6, x6, hk⟩
    have x06 := (x4.trans R4 x5).trans R5 x6
    cases rf with
    | next => exact ⟨items.length + 1 - (i + 1), by omega, i + 1, σ6, hlt, rfl, R6, it.frame _ _ _ _ _ hS4 R4 (x5.trans R5 x6) R6 hk.1, x06, hk.2⟩
    | cont => exact ⟨items.length + 1 - (i + 1), by omega, i + 1, σ6, hlt, rfl, R6, it.frame _ _ _ _ _ hS4 R4 (x5.trans R5 x6) R6 hk.1, x06, hk.2⟩
    | brk => exact ⟨_, σ6, .next, R6, x06, hk⟩
    | ret r => exact ⟨_, σ6, .ret r, R6, x06, hk⟩
  · have hie : i = items.length := by omega
    subst hie
    rw [List.drop_length] at hF'
    refine wpAny_mono (it.done σ' s' R' hS') ?_ fun _ _ e => e.elim
    rintro r s3 ⟨rfl, h', tk, rfl, R3, hk3⟩
    exact wpAny_execs_nil ⟨_, σ', .next, R3, x'.walked hW hk3, hF'⟩

/-! a list walked -/
def Plain (tg : Expr) : Prop := (∃ x p, tg = .Name x p) ∨ (∃ ts k p, tg = .Tuple ts k p)

theorem letOwned_list {tg : Expr} (ht : Plain tg) {I l : Addr} {i : Nat} {v : Value} {s : Shared} {Q : Unit → Shared → Prop} {E : Value → Shared → Prop} (hit : s.heap.IsListIter I l i) (hQ : Q () s) : wpAny X.M X.A (letOwnedTupleGo tg (.ref I) v) Q E s := by
  rcases ht with ⟨x, p, rfl⟩ | ⟨ts, k, p, rfl⟩
  · exact wpAny_pure hQ
  · cases v with
    | ref T => exact wpAny_letOwnedTupleGo_listiter hit hQ
    | _ => exact wpAny_pure hQ

theorem It.list (ok : X.Ok n) {tg : Expr} (ht : Plain tg) {I l : Addr} {V : Val} {vs : List Val} (hV : (V = .lst vs) ∨ V = .ref l) (hI1 : X.B.h₁.get? I = none) (hIL : I ≠ X.f.L) (hIo : I ∉ X.f.own) :
    It X tg I (· = I) (fun i σ h => h.IsListIter I l i ∧ σ.mem I = none ∧ RV h σ.mem (.ref l) V ∧ SeqOf σ V vs) vs (fun σ => SeqOf σ V vs) where
  frame := by
    rintro i σ s σ' s' ⟨⟨o, ho, hc, hd⟩, hm, hr, _⟩ R x R' hst
    exact ⟨⟨o, x.keep I o ho hm hIL hIo, hc, hd⟩, x.mem I o ho hm, x.rv R hr, hst⟩
  turn := by
    rintro i σ s W R ⟨hit, hm, hr, hsq⟩ hV'
    obtain ⟨a, items, k, ea, e, rvs⟩ := hsq.open R hr
    cases ea
    obtain ⟨v, hv, rv⟩ := rvs.get hV'
    refine wpAny_pyNext_list_item hit (PySem.IsL.isList e) (x := v) (by simpa using hv) fun h' hit' hs' => ⟨v, rfl, letOwned_list ht hit' ?_⟩
    have R' : Rep X σ { s with heap := h', toks := s.toks } := R.touch (W := (· = I)) (fun b o q e => hs'.extBut b o q e) fun b q => by
      subst q
      refine ⟨hI1, hIL, hm, fun o ho => ?_⟩
      obtain ⟨o', ho', _, hd⟩ := hit
      rw [ho] at ho'; cases ho'
      exact ⟨(fun ⟨_, _, q⟩ => absurd (hd.symm.trans q) nofun), (fun v q => absurd (hd.symm.trans q) nofun)⟩
    have ks : ∀ b o, s.heap.get? b = some o → σ.mem b = none → isSeqObj o → h'.get? b = some o ∧ σ.mem b = none := fun b o e m q => ⟨hs'.extBut b o (fun z => by
      obtain ⟨o', ho', _, hd⟩ := hit
      rw [z, ho'] at e; cases e
      obtain ⟨_, _, q⟩ := q; rw [hd] at q; cases q) e, m⟩
    exact ⟨h', s.toks, rfl, R', rv.mono ks, ⟨hit', hm, hr.mono ks, hsq⟩, fun b o q e => hs'.extBut b o q e⟩
  done := by
    rintro σ s R ⟨hit, hm, hr, hsq⟩
    obtain ⟨a, items, k, ea, e, rvs⟩ := hsq.open R hr
    cases ea
    refine wpAny_pyNext_list_end ok.handled hit (PySem.IsL.isList e) (by simp [rvs.length]) fun h' hx => ⟨rfl, h', s.toks, rfl, ?_, fun b o q e => hx b o q e⟩
    refine R.touch (W := (· = I)) (fun b o q e => hx b o q e) fun b q => ?_
    subst q
    refine ⟨hI1, hIL, hm, fun o ho => ?_⟩
    obtain ⟨o', ho', _, hd⟩ := hit
    rw [ho] at ho'; cases ho'
    exact ⟨(fun ⟨_, _, q⟩ => absurd (hd.symm.trans q) nofun), (fun v q => absurd (hd.symm.trans q) nofun)⟩
  self := fun i σ s ⟨hit, _⟩ => wpAny_pyIter_listiter hit ⟨rfl, rfl⟩

theorem Rep.top (R : Rep X σ s) : X.B.h₁.get? s.heap.objs.size = none ∧ s.heap.objs.size ≠ X.f.L ∧ s.heap.objs.size ∉ X.f.own ∧ σ.mem s.heap.objs.size = none := by
  have f := R.fresh (heap_top_none s.heap)
  obtain ⟨m, ⟨o, _, _, ho, _⟩, _, hc, _⟩ := R.env
  refine ⟨f.2, fun q => ?_, fun q => ?_, f.1⟩
  · rw [← q, heap_top_none] at ho; cases ho
  · obtain ⟨_, v, o', ho', _⟩ := hc _ (.inl q)
    rw [heap_top_none] at ho'; cases ho'

theorem AI_list {tg iter : Expr} (ht : Plain tg) {K : List Val → (St → Prop) → St → Prop} (h : AE X iter σ (fun V σ1 => ∃ vs, SeqOf σ1 V vs ∧ K vs (fun σ' => SeqOf σ' V vs) σ1)) : AI X tg iter σ K := fun s R => by
  refine wpAny_mono (h s R) ?_ fun _ _ e => e
  rintro v s1 ⟨V, σ1, rv, R1, x1, vs, hsq, hK⟩
  obtain ⟨l, items, k, rfl, e, rvs⟩ := hsq.open R1 rv
  refine wpAny_pyIter_list (PySem.IsL.isList e) ?_
  have g := R1.grow (h' := s1.heap.push { cls := .type "list_iterator", data := .fields #[.ref l, .int 0 0] }) (t := s1.toks) fun b o e => Heap.get?_push_of_some _ e
  have tp := R1.top
  refine ⟨s1.heap.objs.size, (· = s1.heap.objs.size), _, vs, _, σ1, rfl, fun X' eB eA ⟨n', ok'⟩ hd => It.list ok' ht (l := l) (V := V) ?_ (eB ▸ tp.1) (hd _ rfl).1 (hd _ rfl).2, ⟨⟨_, Heap.get?_push_size _ rfl, rfl, rfl⟩, tp.2.2.2, g.2.rv R1 rv, hsq⟩, g.1, x1.trans R1 g.2, ?_, hsq, hK⟩
  · rcases hsq with rfl | ⟨a, rfl, _⟩
    · exact .inl rfl
    · cases rv; exact .inr rfl
  · rintro b rfl
    refine ⟨?_, tp.2.1, tp.2.2.1, _, Heap.get?_push_size _ rfl, (fun ⟨_, _, q⟩ => nomatch q), (fun v q => nomatch q)⟩
    cases q : s.heap.get? s1.heap.objs.size with
    | none => rfl
    | some o =>
      obtain ⟨o', e'⟩ := x1.live _ o q
      rw [heap_top_none] at e'; cases e'
end

end Mine
end
section
open PySem PySem.W PyProof.Rows PySem.Calls
namespace Mine

/-! defs of the text, called -/
def fnFm (L : Addr) (qual : Str) (fa : Addr) (code : Value) (sc : Scope) : Fm :=
  { L := L, cells := cellsFrom (L + 1) sc.names [], own := (cellsFrom (L + 1) sc.names []).map (·.2), qual := qual, func := some fa, code := code, frame := some L }

structure FnAt (B : Base) (name : Str) (params : List Str) (body : List Stmt) (sc : Scope) (fa : Addr) (fd : FuncData) (o : Obj) : Prop where
  glob : B.mg name = some (.ref fa)
  get : B.h₁.get? fa = some o
  data : o.data = .func fd
  code : B.h₁.CodeRec fd.code fd.qualname
  body : fd.body = .stmts body
  clo : fd.closure = []
  scope : fd.scope = sc
  globals : fd.globals = mainGlobals
  builtins : fd.builtins = builtinsNs
  bind : ∀ vals, vals.length = params.length → bindArgs fd ⟨vals, []⟩ = pure (params.zip vals)
  nodup : params.Nodup
  kinds : ∀ x ∈ params, (x == ("__debug__" : Str)) = false ∧ (sc.names.lookup x = some .local ∨ (sc.names.lookup x = some .cell))
  cellNd : ((cellsFrom 0 sc.names []).map (·.1)).Nodup
  co : sc.isCoroutine = false
  gen : sc.isGenerator = false
  kind : sc.kind = .function

theorem bindL_out {k : Str → Option NameKind} : ∀ (bs : List (Str × Value)) (m : Str → Option Value) (x : Str), x ∉ bs.map (·.1) → bindL k bs m x = m x
  | [], _, _, _ => rfl
  | (n, v) :: r, m, x, h => by
    rw [List.map_cons, List.mem_cons, not_or] at h
    unfold bindL
    rw [bindL_out r _ x h.2]
    split
    · simp [h.1]
    · rfl
theorem bindC_out {k : Str → Option NameKind} : ∀ (bs : List (Str × Value)) (m : Str → Option Value) (x : Str), x ∉ bs.map (·.1) → bindC k bs m x = m x
  | [], _, _, _ => rfl
  | (n, v) :: r, m, x, h => by
    rw [List.map_cons, List.mem_cons, not_or] at h
    unfold bindC
    rw [bindC_out r _ x h.2]
    split
    · rfl
    · simp [h.1]
theorem bindL_in {k : Str → Option NameKind} : ∀ (bs : List (Str × Value)) (m : Str → Option Value) (x : Str) (v : Value), (bs.map (·.1)).Nodup → bs.lookup x = some v → k x = some .local → bindL k bs m x = some v
  | [], _, _, _, _, h, _ => by cases h
  | (n, u) :: r, m, x, v, hn, h, hk => by
    rw [List.map_cons, List.nodup_cons] at hn
    unfold bindL
    rw [List.lookup_cons] at h
    cases hx : x == n with
    | true =>
      rw [hx] at h
      have e : x = n := by simpa using hx
      subst e
      cases h
      rw [bindL_out r _ x hn.1, if_pos hk]; simp
    | false => rw [hx] at h; exact bindL_in r _ x v hn.2 h hk
theorem bindC_in {k : Str → Option NameKind} : ∀ (bs : List (Str × Value)) (m : Str → Option Value) (x : Str) (v : Value), (bs.map (·.1)).Nodup → bs.lookup x = some v → k x ≠ some .local → bindC k bs m x = some v
  | [], _, _, _, _, h, _ => by cases h
  | (n, u) :: r, m, x, v, hn, h, hk => by
    rw [List.map_cons, List.nodup_cons] at hn
    unfold bindC
    rw [List.lookup_cons] at h
    cases hx : x == n with
    | true =>
      rw [hx] at h
      have e : x = n := by simpa using hx
      subst e
      cases h
      rw [bindC_out r _ x hn.1, if_neg hk]; simp
    | false => rw [hx] at h; exact bindC_in r _ x v hn.2 h hk

theorem cellsFrom_some' {x : Str} {names : List (Str × NameKind)} {n : Nat} (h : names.lookup x = some .cell) : ((cellsFrom n names []).lookup x).isSome = true := cellsFrom_some names n [] (.inl h)

theorem zip_lookup {params : List Str} : ∀ {Vs : List Val} {vs : List Value} {h : Heap} {mem : Mem} {x : Str} {V : Val}, RVs h mem vs Vs → (params.zip Vs).lookup x = some V → ∃ v, (params.zip vs).lookup x = some v ∧ RV h mem v V := by
  induction params with
  | nil => intro Vs vs h mem x V _ e; simp at e
  | cons p ps ih =>
    intro Vs vs h mem x V r e
    cases r with
    | nil => simp at e
    | cons a r =>
      rw [List.zip_cons_cons, List.lookup_cons] at e ⊢
      cases hx : x == p with
      | true => rw [hx] at e; cases e; exact ⟨_, rfl, a⟩
      | false => rw [hx] at e; exact ih r e
theorem zip_lookup_mem {params : List Str} {α : Type} : ∀ {Vs : List α} {x : Str} {V : α}, (params.zip Vs).lookup x = some V → x ∈ params := by
  induction params with
  | nil => intro Vs x V e; simp at e
  | cons p ps ih =>
    intro Vs x V e
    cases Vs with
    | nil => simp at e
    | cons a r =>
      rw [List.zip_cons_cons, List.lookup_cons] at e
      cases hx : x == p with
      | true => exact List.mem_cons.mpr (.inl (by simpa using hx))
      | false => rw [hx] at e; exact .tail _ (ih e)

def St.back (σ σ' : St) : St := { mem := fun a => if (σ.mem a).isSome then σ'.mem a else none, loc := σ.loc }
def Fl.val : Fl → Val
  | .ret v => v
  | _ => .none
def St.enter (σ : St) (params : List Str) (Vs : List Val) : St := { mem := σ.mem, loc := fun x => (params.zip Vs).lookup x }

/-- what a def of the text answers to a call -/
def CallD (B : Base) (n : Nat) (params : List Str) (body : List Stmt) (sc : Scope) (Vs : List Val) (σ : St) (Q : Val → St → Prop) : Prop :=
  ∀ A L qual fa code, (⟨B, A, fnFm L qual fa code sc, sc⟩ : Cx).Ok n → AS ⟨B, A, fnFm L qual fa code sc, sc⟩ body (σ.enter params Vs) (fun fl σ' => Q fl.val (σ.back σ'))

section
variable {X : Cx} {σ : St} {n : Nat} {pos : Pos}

theorem call_def (ok : X.Ok (n + 1)) {name : Str} {params : List Str} {body : List Stmt} {sc : Scope} {fa : Addr} {fd : FuncData} {o : Obj} (F : FnAt X.B name params body sc fa fd o) {Vs : List Val} {vs : List Value} {s : Shared} {Q : Val → St → Prop}
    (R : Rep X σ s) (rvs : RVs s.heap σ.mem vs Vs) (hl : Vs.length = params.length) (h : CallD X.B n params body sc Vs σ Q) : Ta X RV (call (.ref fa) vs) σ s Q := by
  refine wpAny_call ?_
  have hvl : vs.length = params.length := rvs.length.trans hl
  refine codeAny_call_cells (body := body) (binds := params.zip vs) (Nat.lt_of_le_of_lt (Nat.le_add_right _ _) ok.depth) (R.keep _ _ F.get) F.data (ok.base.lim.keeps R.keep) (F.code.keeps R.keep) F.body (F.bind vs hvl) F.clo ?_ ?_ (by rw [F.scope]; exact F.co) (by rw [F.scope]; exact F.gen) (by rw [F.scope]; exact F.kind)
  · intro x hx
    have hm : x.1 ∈ params := by
      obtain ⟨a, b⟩ := x
      exact (List.of_mem_zip hx).1
    rw [F.scope]
    rcases (F.kinds _ hm).2 with k | k
    · exact .inl k
    · exact .inr ⟨k, cellsFrom_some' k⟩
  · intro s₁ C
    have eE : callEnvC fd s.heap.objs.size fa = (fnFm s.heap.objs.size (fd.qualname ++ ".<locals>.") fa fd.code sc).env sc := by
      simp only [callEnvC, newEnv, Fm.env, fnFm, F.scope, F.globals, F.builtins]
    rw [eE] at C ⊢
    generalize hX' : (⟨X.B, X.A.deeper ((fnFm s.heap.objs.size (fd.qualname ++ ".<locals>.") fa fd.code sc).env sc), fnFm s.heap.objs.size (fd.qualname ++ ".<locals>.") fa fd.code sc, sc⟩ : Cx) = X'
    have eB : X'.B = X.B := by rw [← hX']
    have eA : X'.A = X.A.deeper ((fnFm s.heap.objs.size (fd.qualname ++ ".<locals>.") fa fd.code sc).env sc) := by rw [← hX']
    have eF : X'.f = fnFm s.heap.objs.size (fd.qualname ++ ".<locals>.") fa fd.code sc := by rw [← hX']
    have eS : X'.sc = sc := by rw [← hX']
    have eL : X'.f.L = s.heap.objs.size := by rw [eF]; rfl
    have eC : X'.f.cells = cellsFrom (s.heap.objs.size + 1) sc.names [] := by rw [eF]; rfl
    have eO : X'.f.own = (cellsFrom (s.heap.objs.size + 1) sc.names []).map (·.2) := by rw [eF]; rfl
    have above : ∀ c ∈ X'.f.own, s.heap.objs.size < c := by
      intro c hc
      rw [eO] at hc
      obtain ⟨⟨y, c'⟩, hm, rfl⟩ := List.mem_map.mp hc
      exact C.above y c' hm
    have notlive : ∀ c, s.heap.objs.size ≤ c → s.heap.get? c = none := fun c hc => Heap.get?_none_of_le hc
    have ok' : X'.Ok n := by
      refine ⟨eB ▸ ok.base, eS ▸ F.kind, ?_, ?_, ?_, ?_, ?_, ?_⟩
      · rw [eA]; exact ok.handled
      · rw [eA]; show X.A.depth + 1 + n < _; have := ok.depth; omega
      · rw [eA]; show X.A.units + 3 + 10 * n + 100 < _; have := ok.units; omega
      · rw [eB, eL]; exact R.top.1
      · intro c hc
        refine ⟨?_, by rw [eL]; exact Nat.ne_of_gt (above c hc)⟩
        rw [eB]; exact (R.fresh (notlive c (Nat.le_of_lt (above c hc)))).2
      · intro x y c hx hy
        rw [eC] at hx hy
        exact name_of_addr C.apart (mem_of_lookup hx) (mem_of_lookup hy)
    obtain ⟨h₁, tk₁, rfl, hk₁⟩ := C.done
    have g := R.grow (t := tk₁) hk₁
    have R' : Rep X' (σ.enter params Vs) { s with heap := h₁, toks := tk₁ } := by
      refine ⟨eB ▸ g.1.keep, g.1.gens, eB ▸ g.1.os, fun a bx e => ?_, ?_⟩
      · have q := g.1.mem a bx e; rw [eB]; exact q
      · refine ⟨_, eL ▸ C.toInCall.ns, by rw [eL]; exact R.top.2.2.2, fun c hc => ?_, fun x V hx => ?_⟩
        · replace hc : c ∈ X'.f.own := hc.elim id fun ⟨x, hx⟩ => by rw [eC] at hx; rw [eO]; exact List.mem_map.mpr ⟨(x, c), hx, rfl⟩
          refine ⟨(R.fresh (notlive c (Nat.le_of_lt (above c hc)))).1, ?_⟩
          rw [eO] at hc
          obtain ⟨⟨y, c'⟩, hm, rfl⟩ := List.mem_map.mp hc
          have nd : ((cellsFrom (s.heap.objs.size + 1) sc.names []).map (·.1)).Nodup := by
            rw [← cellsFrom_names sc.names 0 (s.heap.objs.size + 1) [] [] rfl]; exact F.cellNd
          exact ⟨_, C.cell y c' (lookup_of_mem_nodup nd hm)⟩
        · obtain ⟨v, hv, rv⟩ := zip_lookup rvs hx
          have hmem := zip_lookup_mem hx
          have nd : ((params.zip vs).map (·.1)).Nodup := by
            rw [List.map_fst_zip (by omega)]; exact F.nodup
          refine ⟨(F.kinds x hmem).1, v, g.2.rv R rv, ?_⟩
          have ek : X'.env.kindOf x = sc.names.lookup x := by
            show X'.sc.names.lookup x = _; rw [eS]
          rcases (F.kinds x hmem).2 with k | k
          · exact .inl ⟨ek.trans k, bindL_in _ _ x v nd hv k⟩
          · obtain ⟨c, hc⟩ := Option.isSome_iff_exists.mp (cellsFrom_some' (n := s.heap.objs.size + 1) k)
            refine .inr ⟨c, eC ▸ hc, ?_, ?_, .inl (ek.trans k)⟩
            · have q := C.cell x c hc
              rw [bindC_in _ _ x v nd hv (by show sc.names.lookup x ≠ _; rw [k]; decide)] at q
              exact q
            · exact (R.fresh (notlive c (Nat.le_of_lt (C.above x c (mem_of_lookup hc))))).1
    have hc := h X'.A X'.f.L (fd.qualname ++ ".<locals>.") fa fd.code (by
      have : (⟨X.B, X'.A, fnFm X'.f.L (fd.qualname ++ ".<locals>.") fa fd.code sc, sc⟩ : Cx) = X' := by rw [eL, ← hX']
      rw [this]; exact ok')
    have eX : (⟨X.B, X'.A, fnFm X'.f.L (fd.qualname ++ ".<locals>.") fa fd.code sc, sc⟩ : Cx) = X' := by rw [eL, ← hX']
    rw [eX] at hc
    have hw := hc _ R'
    rw [show (model X.B.prog X.B.w) = X'.M from by rw [← hX'], ← eA, show (fnFm s.heap.objs.size (fd.qualname ++ ".<locals>.") fa fd.code sc).env sc = X'.env from by rw [← hX']]
    refine wpAny_mono hw ?_ fun _ _ e => e.elim
    rintro f s' ⟨fl, σ', rf, R'', x', q⟩
    have nn : ∀ b, σ'.mem b = none → (σ.back σ').mem b = none := fun b m => by
      show (if _ then _ else _) = none
      split
      · exact m
      · rfl
    have nk : ∀ b ob, s.heap.get? b = some ob → σ.mem b = none → s'.heap.get? b = some ob ∧ (σ.back σ').mem b = none := fun b ob e m => by
      have lt := Heap.lt_size e
      refine ⟨x'.keep b ob (hk₁ b ob e) m (by rw [eL]; exact Nat.ne_of_lt lt) (fun hm => ?_), ?_⟩
      · exact absurd (above b hm) (Nat.not_lt.mpr (Nat.le_of_lt lt))
      · exact nn b (x'.mem b ob (hk₁ b ob e) m)
    have RX : Rep X (σ.back σ') s' := by
      refine ⟨eB ▸ R''.keep, R''.gens, eB ▸ R''.os, fun a bx e => ?_, ?_⟩
      · have e' : σ'.mem a = some bx := by
          have : (if (σ.mem a).isSome then σ'.mem a else none) = some bx := e
          split at this
          · exact this
          · cases this
        have q := R''.mem a bx e'
        rw [eB] at q
        exact ⟨q.1, q.2.mono (fun b o e m _ => ⟨e, nn b m⟩) fun _ e => e⟩
      · obtain ⟨m, ⟨oL, es, ep, hL, rest⟩, qL, qc, ql⟩ := id R.env
        exact R.env.mono (fun b ob e m _ => nk b ob e m) (fun ob e => (nk _ ob e qL).1) (fun c v ⟨ob, e, d⟩ m => ⟨⟨ob, (nk c ob e m).1, d⟩, (nk c ob e m).2⟩) (nk _ _ hL qL).2 fun _ _ e => e
    refine ⟨fl.val, σ.back σ', ?_, RX, ⟨fun b ob e m _ _ => (nk b ob e m).1, fun b ob e m => (nk b ob e m).2, fun b ob e => x'.live b ob (hk₁ b ob e)⟩, q⟩
    cases rf with
    | ret r => exact r.mono fun b o e m _ => ⟨e, nn b m⟩
    | next => exact .none
    | brk => exact .none
    | cont => exact .none

theorem name_global (ok : X.Ok n) {x : Str} {v : Value} {s : Shared} {E : Value → Shared → Prop} {Q : Value → Shared → Prop} (R : Rep X σ s) (hk : X.env.kindOf x = some .globalImplicit) (hd : (x == ("__debug__" : Str)) = false) (hv : X.B.mg x = some v) (h : Q v s) :
    wpAny X.M X.A (eval (.Name x pos) X.env) Q E s := Name_function_global ok.kind hk (loadGlobal_global (ok.base.g.keeps R.keep) hv h) hd
theorem name_builtin (ok : X.Ok n) {x : Str} {v : Value} {s : Shared} {E : Value → Shared → Prop} {Q : Value → Shared → Prop} (R : Rep X σ s) (hk : X.env.kindOf x = some .globalImplicit) (hd : (x == ("__debug__" : Str)) = false) (hg : X.B.mg x = none) (hn : x ≠ ("__name__" : Str))
    (hv : bootBuiltins x = some v) (h : Q v s) : wpAny X.M X.A (eval (.Name x pos) X.env) Q E s :=
  Name_function_global ok.kind hk (loadGlobal_builtin (ok.base.g.keeps R.keep) hg (ok.base.b.keeps R.keep) ((ok.base.boot x hn).trans hv) h) hd

theorem AE_call (ok : X.Ok (n + 1)) {name : Str} {p : Pos} {e : Expr} {args : List Expr} {params : List Str} {body : List Stmt} {sc : Scope} {fa : Addr} {fd : FuncData} {o : Obj} (F : FnAt X.B name params body sc fa fd o) {Q : Val → St → Prop}
    (hk : X.env.kindOf name = some .globalImplicit) (hd : (name == ("__debug__" : Str)) = false) (he : starEach (e :: args) X.env = (false, eval e X.env) :: starEach args X.env)
    (h : AEs X pos (e :: args) σ (fun Vs σ1 => Vs.length = params.length ∧ CallD X.B n params body sc Vs σ1 Q)) : AE X (.Call (.Name name p) (e :: args) [] pos) σ Q := fun s R => by
  refine PyProof.Rows.Call_ (name_global ok R hk hd F.glob ?_)
  refine PyProof.Rows.callWith_def (o := o) (fd := fd) F.data (wpAny_mono (h s R) ?_ fun _ _ e => e) he
  rintro vs s1 ⟨Vs, σ1, rvs, R1, x1, hl, hc⟩
  exact ⟨R1.keep _ _ F.get, (call_def ok F R1 rvs hl hc).then R1 x1⟩

/-! built-in callables -/
def BC (X : Cx) (f : Value) (Vs : List Val) (σ : St) (Q : Val → St → Prop) : Prop := ∀ s vs, Rep X σ s → RVs s.heap σ.mem vs Vs → Ta X RV (call f vs) σ s Q

/-- a built-in's name, here -/
structure BName (X : Cx) (x : Str) (v : Value) : Prop where
  kind : X.env.kindOf x = some .globalImplicit
  dbg : (x == ("__debug__" : Str)) = false
  free : X.B.mg x = none
  ne : x ≠ ("__name__" : Str)
  boot : bootBuiltins x = some v

theorem AE_builtin (ok : X.Ok n) {x : Str} {p : Pos} {id : String} {e : Expr} {args : List Expr} {Q : Val → St → Prop} (N : BName X x (.builtin id)) (he : starEach (e :: args) X.env = (false, eval e X.env) :: starEach args X.env)
    (hp : (backTo pos (starEach args X.env)).any (·.1) = false) (h : AEs X pos (e :: args) σ (fun Vs σ1 => BC X (.builtin id) Vs σ1 Q)) : AE X (.Call (.Name x p) (e :: args) [] pos) σ Q := fun s R => by
  refine PyProof.Rows.Call_ (name_builtin ok R N.kind N.dbg N.free N.ne N.boot ?_)
  refine PyProof.Rows.callWith_builtin1 (wpAny_mono (h s R) ?_ fun _ _ e => e) he hp
  rintro vs s1 ⟨Vs, σ1, rvs, R1, x1, hc⟩
  exact (hc s1 vs R1 rvs).then R1 x1

theorem BC_len {V : Val} {vs : List Val} {Q : Val → St → Prop} (hs : SeqOf σ V vs) (hl : vs.length < 2 ^ 62) (h : Q (.int vs.length) σ) : BC X (.builtin "len") [V] σ Q := fun s v R rv => by
  cases rv with
  | cons a r =>
    cases r
    obtain ⟨l, items, k, rfl, e, rvs⟩ := hs.open R a
    refine PyProof.Rows.len_list (PySem.IsL.isList e) (by simp [rvs.length]; omega) ?_
    have g := R.toks (t := s.toks + 1 + 1)
    refine ⟨_, σ, ?_, g.1, g.2, h⟩
    simpa [rvs.length] using RV.int (h := s.heap) (mem := σ.mem) (vs.length : Int) (s.toks + 1)
end

end Mine
end
section
open PySem PySem.W PyProof.Rows PySem.Calls PySem.Spec
namespace Mine

/-! plain data: equality, membership -/
mutual
def Val.dat : Val → Dat
  | .none => .none
  | .bool b => .bool b
  | .int i => .int i
  | .str x => .str x
  | .tup vs => .tuple (Val.dats vs)
  | .lst vs => .list (Val.dats vs)
  | .ref _ => .bytes #[]
def Val.dats : List Val → List Dat
  | [] => []
  | v :: vs => v.dat :: Val.dats vs
end
theorem dats_eq (vs : List Val) : Val.dats vs = vs.map Val.dat := by
  induction vs with
  | nil => rfl
  | cons v vs ih => simp [Val.dats, ih]

def pureV (n : Nat) (v : Val) : Prop := kqdOk n v.dat = true
theorem pureV_int {n : Nat} (i : Int) : pureV n (.int i) := by cases n <;> rfl
theorem pureV_none {n : Nat} : pureV n .none := by cases n <;> rfl
theorem pureV_tup {n : Nat} {vs : List Val} : pureV (n + 1) (.tup vs) ↔ ∀ v ∈ vs, pureV n v := by
  simp [pureV, Val.dat, kqdOk, dats_eq]
theorem pureV_lst {n : Nat} {vs : List Val} : pureV (n + 1) (.lst vs) ↔ ∀ v ∈ vs, pureV n v := by
  simp [pureV, Val.dat, kqdOk, dats_eq]

mutual
theorem dat_inj : ∀ (n k : Nat) (v w : Val), kqdOk n v.dat = true → kqdOk k w.dat = true → v.dat = w.dat → v = w
  | n, _, .none, w, _, h2, e => by cases w <;> simp_all [Val.dat]
  | n, _, .bool b, w, h1, h2, e => by cases n <;> simp [Val.dat, kqdOk] at h1
  | n, _, .int i, w, _, h2, e => by cases w <;> simp_all [Val.dat]
  | n, _, .str x, w, _, h2, e => by cases w <;> simp_all [Val.dat]
  | n, _, .ref a, w, h1, _, e => by cases n <;> simp [Val.dat, kqdOk] at h1
  | 0, _, .tup vs, w, h1, _, e => by simp [Val.dat, kqdOk] at h1
  | 0, _, .lst vs, w, h1, _, e => by simp [Val.dat, kqdOk] at h1
  | n + 1, k, .tup vs, w, h1, h2, e => by
    cases w with
    | tup ws =>
      cases k with
      | zero => simp [Val.dat, kqdOk] at h2
      | succ k =>
        simp only [Val.dat, Dat.tuple.injEq] at e
        rw [dats_inj n k vs ws (by simpa [Val.dat, kqdOk] using h1) (by simpa [Val.dat, kqdOk] using h2) e]
    | _ => simp [Val.dat] at e
  | n + 1, k, .lst vs, w, h1, h2, e => by
    cases w with
    | lst ws =>
      cases k with
      | zero => simp [Val.dat, kqdOk] at h2
      | succ k =>
        simp only [Val.dat, Dat.list.injEq] at e
        rw [dats_inj n k vs ws (by simpa [Val.dat, kqdOk] using h1) (by simpa [Val.dat, kqdOk] using h2) e]
    | _ => simp [Val.dat] at e
theorem dats_inj : ∀ (n k : Nat) (vs ws : List Val), (∀ d ∈ Val.dats vs, kqdOk n d = true) → (∀ d ∈ Val.dats ws, kqdOk k d = true) → Val.dats vs = Val.dats ws → vs = ws
  | _, _, [], [], _, _, _ => rfl
  | _, _, [], _ :: _, _, _, e => by simp [Val.dats] at e
  | _, _, _ :: _, [], _, _, e => by simp [Val.dats] at e
  | n, k, v :: vs, w :: ws, h1, h2, e => by
    simp only [Val.dats, List.cons.injEq] at e
    simp only [Val.dats, List.mem_cons, forall_eq_or_imp] at h1 h2
    rw [dat_inj n k v w h1.1 h2.1 e.1, dats_inj n k vs ws h1.2 h2.2 e.2]
end

mutual
theorem RV.reads {h : Heap} {mem : Mem} : ∀ {v : Value} {V : Val} (n : Nat), RV h mem v V → kqdOk n V.dat = true → ∃ as, Reads h v (kqdP V.dat) as
  | _, _, _, .none, _ => ⟨_, Reads.none⟩
  | _, _, _, .bool b, _ => ⟨_, Reads.bool b⟩
  | _, _, _, .int i t, _ => ⟨_, Reads.int i t⟩
  | _, _, _, .str x t, _ => ⟨_, Reads.str x t⟩
  | _, _, n, .ref _, hk => by cases n <;> simp [Val.dat, kqdOk] at hk
  | _, _, 0, .tup _ _ _, hk => by simp [Val.dat, kqdOk] at hk
  | _, _, 0, .lst _ _ _, hk => by simp [Val.dat, kqdOk] at hk
  | _, _, n + 1, .tup e _ r, hk => by
    obtain ⟨as, q⟩ := RVs.reads n r (by simpa [Val.dat, kqdOk] using hk)
    rw [Val.dat, kqdP]
    exact ⟨as, reads_tuple_at e rfl rfl (by simpa using q)⟩
  | _, _, n + 1, .lst e _ r, hk => by
    obtain ⟨as, q⟩ := RVs.reads n r (by simpa [Val.dat, kqdOk] using hk)
    rw [Val.dat, kqdP]
    exact ⟨_, reads_list_at e rfl rfl (by simpa using q)⟩
theorem RVs.reads {h : Heap} {mem : Mem} : ∀ {vs : List Value} {Vs : List Val} (n : Nat), RVs h mem vs Vs → (∀ d ∈ Val.dats Vs, kqdOk n d = true) → ∃ as, ReadsAll h vs (kqdPs (Val.dats Vs)) as
  | _, _, _, .nil, _ => ⟨_, ReadsAll.nil⟩
  | _, _, n, .cons a r, hk => by
    simp only [Val.dats, List.mem_cons, forall_eq_or_imp] at hk
    obtain ⟨as, q⟩ := RV.reads n a hk.1
    obtain ⟨bs, p⟩ := RVs.reads n r hk.2
    rw [Val.dats, kqdPs]
    exact ⟨_, ReadsAll.cons q p⟩
end

/-- a value, a tracked list seen as its items -/
def View (σ : St) (A A' : Val) : Prop := A' = A ∨ ∃ a vs, A = .ref a ∧ σ.mem a = some (.list vs) ∧ A' = .lst vs
theorem View.self {σ : St} {A : Val} : View σ A A := .inl rfl
theorem View.ref {σ : St} {a : Addr} {vs : List Val} (h : σ.mem a = some (.list vs)) : View σ (.ref a) (.lst vs) := .inr ⟨a, vs, rfl, h, rfl⟩

theorem View.reads {X : Cx} {σ : St} {s : Shared} {A A' : Val} {v : Value} {n : Nat} (w : View σ A A') (R : Rep X σ s) (r : RV s.heap σ.mem v A) (hp : pureV n A') : ∃ as, Reads s.heap v (kqdP A'.dat) as := by
  rcases w with rfl | ⟨a, vs, rfl, hm, rfl⟩
  · exact r.reads n hp
  · cases r
    obtain ⟨items, k, e, rvs⟩ := R.isL hm
    cases n with
    | zero => simp [pureV, Val.dat, kqdOk] at hp
    | succ n =>
      obtain ⟨as, q⟩ := rvs.reads n (by simpa [pureV, Val.dat, kqdOk] using hp)
      rw [Val.dat, kqdP]
      exact ⟨_, reads_list_at e rfl rfl (by simpa using q)⟩

theorem shaped_of {n : Nat} (hn : n ≤ 60) {V : Val} (h : pureV n V) : SeqAt.shaped (kqdP V.dat) = true := by
  have la := kqd_lay n V.dat h
  unfold SeqAt.shaped
  rw [la.1, Bool.true_and]
  exact decide_eq_true (Nat.le_trans la.2 (by omega))

section
variable {X : Cx} {σ : St} {n : Nat} {P : Bool → St → Prop}

theorem eqv_iff {k m : Nat} {A B : Val} (ha : pureV k A) (hb : pureV m B) : PyData.eqv (kqdP A.dat) (kqdP B.dat) = true ↔ A = B :=
  (kqd_eqv k A.dat B.dat m ha hb).trans ⟨dat_inj k m A B ha hb, fun e => by rw [e]⟩

theorem Cmp_eqD (ok : X.Ok n) {A B A' B' : Val} (wa : View σ A A') (wb : View σ B B') (ha : pureV 8 A') (hb : pureV 8 B') (h : ∀ b : Bool, (b = true ↔ A' = B') → P b σ) : Cmp2 X .Eq A B σ P := fun s va vb R ra rb => by
  obtain ⟨as, qa⟩ := wa.reads R ra ha
  obtain ⟨bs, qb⟩ := wb.reads R rb hb
  exact eq_dataH qa qb (shaped_of (by decide) ha) (shaped_of (by decide) hb) (by have := ok.units; omega) (boolQ R (h _ (eqv_iff ha hb)))
theorem Cmp_neD (ok : X.Ok n) {A B A' B' : Val} (wa : View σ A A') (wb : View σ B B') (ha : pureV 8 A') (hb : pureV 8 B') (h : ∀ b : Bool, (b = true ↔ A' ≠ B') → P b σ) : Cmp2 X .NotEq A B σ P := fun s va vb R ra rb => by
  obtain ⟨as, qa⟩ := wa.reads R ra ha
  obtain ⟨bs, qb⟩ := wb.reads R rb hb
  refine ne_dataH qa qb (shaped_of (by decide) ha) (shaped_of (by decide) hb) (by have := ok.units; omega) (boolQ R (h _ ?_))
  have q := eqv_iff ha hb
  constructor
  · intro z e; rw [q.mpr e] at z; cases z
  · intro z
    cases w : PyData.eqv (kqdP A'.dat) (kqdP B'.dat) with
    | false => rfl
    | true => exact absurd (q.mp w) z

/-- an int in a list of ints -/
theorem any_isInt (k : Int) : ∀ {vs : List Value} {ns : List Int}, IntsAre vs ns → (vs.any (isInt k)) = decide (k ∈ ns)
  | _, _, .nil => by simp
  | _, _, .cons n t h => by
    have e : isInt k (.int n t) = decide (k = n) := by
      simp only [isInt]
      by_cases q : n = k
      · simp [q]
      · have : ¬ k = n := fun e => q e.symm
        simp [q, this]
    rw [List.any_cons, any_isInt k h, e]
    simp [List.mem_cons, Bool.decide_or]

theorem Cmp_in {k : Int} {L : Val} {ns : List Int} (hs : SeqOf σ L (ns.map Val.int)) (h : P (decide (k ∈ ns)) σ) : Cmp2 X .In (.int k) L σ P := fun s va vb R ra rb => by
  obtain ⟨t, rfl⟩ := ra.int_inv
  obtain ⟨l, items, kk, rfl, e, rvs⟩ := hs.open R rb
  have hi := rvs.ints
  refine SeqInW.in_listW (isInt k) (fun y hy => eq_isInt k t hi y (by simpa using hy)) (PySem.IsL.isList e) (boolQ R ?_)
  rw [show (items.toArray.any (isInt k)) = decide (k ∈ ns) from by rw [← any_isInt k hi]; simp]
  exact h
theorem Cmp_notin {k : Int} {L : Val} {ns : List Int} (hs : SeqOf σ L (ns.map Val.int)) (h : P (decide (k ∉ ns)) σ) : Cmp2 X .NotIn (.int k) L σ P := fun s va vb R ra rb => by
  obtain ⟨t, rfl⟩ := ra.int_inv
  obtain ⟨l, items, kk, rfl, e, rvs⟩ := hs.open R rb
  have hi := rvs.ints
  refine SeqInW.notIn_listW (isInt k) (fun y hy => eq_isInt k t hi y (by simpa using hy)) (PySem.IsL.isList e) (boolQ R ?_)
  rw [show (items.toArray.any (isInt k)) = decide (k ∈ ns) from by rw [← any_isInt k hi]; simp]
  rwa [show (!decide (k ∈ ns)) = decide (k ∉ ns) from by by_cases hk : k ∈ ns <;> simp [hk]]
end

/-! tuples of ints, by the first place that differs -/
def lexLt : List Int → List Int → Bool
  | [], [] => false
  | [], _ :: _ => true
  | _ :: _, [] => false
  | a :: as, b :: bs => if a = b then lexLt as bs else decide (a < b)

section
variable {prog : Program} {w : World} {A : Around} {E : Value → Shared → Prop} {s : Shared}

theorem lex_zip_nil : ∀ {xs ys : List Int} {vs ws : List Value}, IntsAre vs xs → IntsAre ws ys → List.zip vs ws = [] → lexLt xs ys = decide (vs.length < ws.length)
  | [], [], _, _, .nil, .nil, _ => by simp [lexLt]
  | [], _ :: _, _, _, .nil, .cons _ _ _, _ => by simp [lexLt]
  | _ :: _, [], _, _, .cons _ _ _, .nil, _ => by simp [lexLt]
  | _ :: _, _ :: _, _, _, .cons _ _ _, .cons _ _ _, h => by simp at h

theorem tuple_lt_tree {x y : List Int} {a b : Addr} {vs ws : List Value} {k m : Nat} {P : PySem.Fin → Shared → Prop} (hx : IsT s.heap a vs.toArray k) (hy : IsT s.heap b ws.toArray m) (ix : IntsAre vs x) (iy : IntsAre ws y)
    (h : P (.done (.ret (.bool (lexLt x y)))) s) : wpAny (model prog w) A (Builtin.«tuple.__lt__» ⟨[.ref a, .ref b], []⟩) P E s := by
  show wpAny _ _ (isInstance (.ref b) (.type "tuple") >>= _) _ _ s
  refine wpAny_bind (wpAny_isInstance (T := "tuple") ⟨_, hy, rfl⟩ isSubtype_tuple_tuple ?_)
  simp only [Bool.not_true, Bool.false_eq_true, if_false]
  refine wpAny_bind (wpAny_tupleItemsOf hx rfl ?_)
  refine wpAny_bind (wpAny_tupleItemsOf hy rfl ?_)
  refine wpAny_bind ?_
  refine wpAny_forIn_list _
    (fun rest r s' => r.1 = none ∧ s' = s ∧ ∃ x' y' vs' ws', rest = List.zip vs' ws' ∧ IntsAre vs' x' ∧ IntsAre ws' y' ∧ lexLt x' y' = lexLt x y ∧ decide (vs'.length < ws'.length) = decide (vs.length < ws.length))
    _ ?_ ?_ _ _ ⟨rfl, rfl, x, y, vs, ws, by simp, ix, iy, rfl, rfl⟩
  · rintro ⟨u, v⟩ rest r s' ⟨hr, rfl, x', y', vs', ws', hz, hx', hy', hdec, hlen⟩
    cases hx' with
    | nil => simp at hz
    | @cons k1 t1 vs'' x'' hx'' =>
      cases hy' with
      | nil => simp at hz
      | @cons k2 t2 ws'' y'' hy'' =>
        simp only [List.zip_cons_cons, List.cons.injEq, Prod.mk.injEq] at hz
        obtain ⟨⟨rfl, rfl⟩, rfl⟩ := hz
        refine wpAny_bind (wpAny_eqBool_int ?_)
        by_cases hk : k1 = k2
        · subst hk
          simp only [beq_self_eq_true, Bool.not_true, Bool.false_eq_true, if_false]
          refine wpAny_pure ⟨rfl, rfl, x'', y'', vs'', ws'', rfl, hx'', hy'', ?_, by simpa using hlen⟩
          rw [← hdec]; simp [lexLt]
        · have hb : (k1 == k2) = false := by simpa using hk
          rw [hb]
          simp only [Bool.not_false, if_true]
          have hf : lexLt x y = decide (k1 < k2) := by rw [← hdec]; simp [lexLt, hk]
          rw [hf] at h
          refine wpAny_bind (wpAny_rule ?_)
          refine wpAny_bind (show wpAny _ _ (compareOp .Lt (.int k1 t1) (.int k2 t2)) _ _ _ from PyProof.Rows.lt_int ?_)
          exact wpAny_bind (wpAny_pure (wpAny_pure (wpAny_pure h)))
  · rintro ⟨r1, r2⟩ s' ⟨hr, rfl, x', y', vs', ws', hz, hx', hy', hdec, hlen⟩
    simp only at hr
    subst hr
    refine wpAny_pure ?_
    have hfin : decide (vs.length < ws.length) = lexLt x y := by
      rw [← hdec, ← hlen]
      exact (lex_zip_nil hx' hy' hz.symm).symm
    have e : Builtin.Tuple.tupleCompareSizes .Lt vs.toArray.size ws.toArray.size = .bool (lexLt x y) := by
      rw [← hfin]; simp [Builtin.Tuple.tupleCompareSizes]
    show P (.done (.ret (Builtin.Tuple.tupleCompareSizes .Lt vs.toArray.size ws.toArray.size))) s'
    rw [e]; exact h

theorem tuple_lt {x y : List Int} {a b : Addr} {vs ws : List Value} {k m : Nat} {Q : Value → Shared → Prop} (hu : A.units < cLine) (hx : IsT s.heap a vs.toArray k) (hy : IsT s.heap b ws.toArray m) (ix : IntsAre vs x) (iy : IntsAre ws y)
    (h : Q (.bool (lexLt x y)) s) : wpAny (model prog w) A (richCompare .Lt (.ref a) (.ref b)) Q E s :=
  wpAny_richCompare_same_room (op := .Lt) (T := "tuple") ⟨_, hx, rfl⟩ ⟨_, hy, rfl⟩ F.slot_tuple_lt
    (wpAny_call_entry F.slot_tuple_lt ⟨_, hx, rfl⟩ F.entry_tuple_lt (tuple_lt_tree hx hy ix iy ⟨_, rfl, (fun e => nomatch e), h⟩) (F.args_tuple_lt_2 _ _)) hu
end

section
variable {X : Cx} {σ : St} {n : Nat} {P : Bool → St → Prop} {pos : Pos}
theorem Cmp_ltT (ok : X.Ok n) {x y : List Int} (h : P (lexLt x y) σ) : Cmp2 X .Lt (.tup (x.map Val.int)) (.tup (y.map Val.int)) σ P := fun s va vb R ra rb => by
  obtain ⟨a, ia, ka, rfl, ea, _, rva⟩ := ra.tup_inv
  obtain ⟨b, ib, kb, rfl, eb, _, rvb⟩ := rb.tup_inv
  exact tuple_lt (by have := ok.units; omega) ea eb rva.ints rvb.ints (boolQ R h)

/-! a list's truth -/
theorem Tru_list {V : Val} {vs : List Val} (hs : SeqOf σ V vs) (hl : vs.length < 2 ^ 62) (h : P (decide (vs ≠ [])) σ) : Tru X V σ P := fun s va R ra => by
  obtain ⟨l, items, k, rfl, e, rvs⟩ := hs.open R ra
  refine wpAny_truthy_list (PySem.IsL.isList e) (by simp [rvs.length]; omega) ?_
  have g := R.toks (t := s.toks + 1 + 1)
  refine ⟨_, σ, rfl, g.1, g.2, ?_⟩
  rw [show (!items.toArray.isEmpty) = decide (vs ≠ []) from by
    have := rvs.length
    cases items <;> cases vs <;> simp_all]
  exact h
end

end Mine
end
section
open PySem PySem.W PyProof.Rows PySem.Calls
namespace Mine

section
variable {X : Cx} {σ : St} {n : Nat} {pos apos : Pos} {Q : Val → St → Prop}

/-! methods of a tracked list -/
theorem noDictL {h : Heap} {l : Addr} {items : Array Value} {k : Nat} (e : IsL h l items k) : h.NoDictAt (.ref l) := ⟨_, e, rfl⟩

theorem AE_append {o e : Expr} {pl : Sem Bool} (h : AE X o σ (fun a σ1 => ∃ l us, a = .ref l ∧ σ1.mem l = some (.list us) ∧ AE X e σ1 (fun V σ2 => ∃ vs, σ2.mem l = some (.list vs) ∧ vs.length < 16777216 ∧ Q .none (σ2.put l (.list (vs ++ [V]))))))
    (ha : backTo pos (starEach [e] X.env) = [(false, eval e X.env)])
    (he : eval (.Call (.Attribute o (Str.ofString "append") apos) [e] [] pos) X.env = (do
      let ov ← eval o X.env
      standAt apos.atName
      let (f, first) ← holding [ov] (getMethod ov (Str.ofString "append") pl)
      callWith pos f first (backTo pos (starEach [e] X.env)) [])) : AE X (.Call (.Attribute o (Str.ofString "append") apos) [e] [] pos) σ Q := fun s R => by
  refine MethodCall_ (wpAny_mono (h s R) ?_ fun _ _ e => e) he
  rintro va s1 ⟨a, σ1, ra, R1, x1, l, us, rfl, hm, hk⟩
  obtain rfl : va = .ref l := by cases ra; rfl
  obtain ⟨iu, ku, eu, ru⟩ := R1.isL hm
  refine getMethod_list_of F.slot_list_append F.type_list_append (PySem.IsL.isList eu) (noDictL eu) ?_
  rw [ha]
  refine P.append_list (wpAny_mono (hk s1 R1) ?_ fun _ _ e => e)
  rintro v s2 ⟨V, σ2, rv, R2, x2, vs, hm2, hl, q⟩
  obtain ⟨items, k, e2, rvs⟩ := R2.isL hm2
  refine ⟨_, _, sz (by simp [rvs.length]; omega), e2, ?_⟩
  have el := PySem.IsL.update e2 (·.push v)
  rw [show items.toArray.push v = (items ++ [v]).toArray from by simp] at el
  have kp : ∀ b o, b ≠ l → s2.heap.get? b = some o → (s2.heap.update l (Obj.mapSeq (·.push v))).get? b = some o := fun b o q e => (Heap.get?_update_other _ _ (Ne.symm q)).trans e
  have pm : ∀ b, σ2.mem b = none → b ≠ l := fun b m q => by rw [q, hm2] at m; cases m
  have g := R2.upd (t := s2.toks) (bx' := .list (vs ++ [V])) hm2 kp ⟨items ++ [v], _, el, (rvs.snoc rv).mono fun b o e m _ => ⟨kp b o (pm b m) e, by rw [St.put_mem, if_neg (pm b m)]; exact m⟩⟩
  exact ⟨_, _, .none, g.1, (x1.trans R1 x2).trans R2 g.2, q⟩

theorem AE_pop {o : Expr} {pl : Sem Bool} (h : AE X o σ (fun a σ1 => ∃ l vs V, a = .ref l ∧ σ1.mem l = some (.list (vs ++ [V])) ∧ vs.length < 16777216 ∧ Q V (σ1.put l (.list vs))))
    (ha : backTo pos (starEach [] X.env) = [])
    (he : eval (.Call (.Attribute o (Str.ofString "pop") apos) [] [] pos) X.env = (do
      let ov ← eval o X.env
      standAt apos.atName
      let (f, first) ← holding [ov] (getMethod ov (Str.ofString "pop") pl)
      callWith pos f first (backTo pos (starEach [] X.env)) [])) : AE X (.Call (.Attribute o (Str.ofString "pop") apos) [] [] pos) σ Q := fun s R => by
  refine MethodCall_ (wpAny_mono (h s R) ?_ fun _ _ e => e) he
  rintro va s1 ⟨a, σ1, ra, R1, x1, l, vs, V, rfl, hm, hl, q⟩
  obtain rfl : va = .ref l := by cases ra; rfl
  obtain ⟨items, k, e1, rvs⟩ := R1.isL hm
  refine getMethod_list_of F.slot_list_pop F.type_list_pop (PySem.IsL.isList e1) (noDictL e1) ?_
  rw [ha]
  have hlen : items.length = vs.length + 1 := by rw [rvs.length]; simp
  obtain ⟨v, hv, rv⟩ := rvs.get (k := vs.length) (V := V) (by simp)
  refine P.pop_list e1 (y := v) (by rw [show items.toArray.size - 1 = vs.length from by simp [hlen], List.getElem?_toArray]; exact hv) ?_ (sz (by simp [hlen]; omega))
  have el := PySem.IsL.update e1 (fun xs => xs.eraseIdxIfInBounds (items.toArray.size - 1))
  rw [show items.toArray.eraseIdxIfInBounds (items.toArray.size - 1) = (items.take vs.length).toArray from by
    rw [Array.eraseIdxIfInBounds]
    have : items.toArray.size - 1 = vs.length := by simp [hlen]
    rw [dif_pos (by simp [hlen])]
    simp only [this, List.eraseIdx_toArray]
    congr 1
    rw [List.eraseIdx_eq_take_drop_succ]
    have : items.drop (vs.length + 1) = [] := List.drop_eq_nil_of_le (by omega)
    rw [this, List.append_nil]] at el
  have kp : ∀ b o, b ≠ l → s1.heap.get? b = some o → (s1.heap.update l (Obj.mapSeq fun xs => xs.eraseIdxIfInBounds (items.toArray.size - 1))).get? b = some o := fun b o q e => (Heap.get?_update_other _ _ (Ne.symm q)).trans e
  have pm : ∀ b, σ1.mem b = none → b ≠ l := fun b m q => by rw [q, hm] at m; cases m
  have rt : RVs s1.heap σ1.mem (items.take vs.length) vs := by simpa using rvs.take vs.length
  have mm : ∀ b o, s1.heap.get? b = some o → σ1.mem b = none → isSeqObj o → (s1.heap.update l (Obj.mapSeq fun xs => xs.eraseIdxIfInBounds (items.toArray.size - 1))).get? b = some o ∧ (σ1.put l (.list vs)).mem b = none :=
    fun b o e m _ => ⟨kp b o (pm b m) e, by rw [St.put_mem, if_neg (pm b m)]; exact m⟩
  have g := R1.upd (t := s1.toks) (bx' := .list vs) hm kp ⟨items.take vs.length, _, el, rt.mono mm⟩
  exact ⟨V, _, rv.mono mm, g.1, x1.trans R1 g.2, q⟩

/-- the place of an int in a list of ints -/
theorem AE_index {o e : Expr} {pl : Sem Bool} (h : AE X o σ (fun a σ1 => ∃ ns : List Int, SeqOf σ1 a (ns.map Val.int) ∧ AE X e σ1 (fun V σ2 => ∃ (k : Int) (j : Nat), V = .int k ∧ SeqOf σ2 a (ns.map Val.int) ∧ j < 2 ^ 62 ∧ ns[j]? = some k ∧ (∀ m, m < j → ns[m]? ≠ some k) ∧ Q (.int j) σ2)))
    (ha : backTo pos (starEach [e] X.env) = [(false, eval e X.env)])
    (he : eval (.Call (.Attribute o (Str.ofString "index") apos) [e] [] pos) X.env = (do
      let ov ← eval o X.env
      standAt apos.atName
      let (f, first) ← holding [ov] (getMethod ov (Str.ofString "index") pl)
      callWith pos f first (backTo pos (starEach [e] X.env)) [])) : AE X (.Call (.Attribute o (Str.ofString "index") apos) [e] [] pos) σ Q := fun s R => by
  refine MethodCall_ (wpAny_mono (h s R) ?_ fun _ _ e => e) he
  rintro va s1 ⟨a, σ1, ra, R1, x1, ns, hs, hk⟩
  obtain ⟨l, iu, ku, rfl, eu, ru⟩ := hs.open R1 ra
  refine getMethod_list_of F.slot_list_index F.type_list_index (PySem.IsL.isList eu) (noDictL eu) ?_
  rw [ha]
  refine P.index_list (wpAny_mono (hk s1 R1) ?_ fun _ _ e => e)
  rintro v s2 ⟨V, σ2, rv, R2, x2, k, j, rfl, hs2, hj, hjk, hno, q⟩
  obtain ⟨t, rfl⟩ := rv.int_inv
  obtain ⟨l2, items, kk, el2, e2, rvs⟩ := hs2.open R2 (x2.rv R1 ra)
  cases el2
  have hi := rvs.ints
  have hlen : items.length = ns.length := hi.length
  have hjl : j < ns.length := (List.getElem?_eq_some_iff.mp hjk).1
  have ev : ∀ m (hm : m < items.length) (hm' : m < ns.length), isInt k items[m] = (ns[m] == k) := fun m hm hm' => isInt_at k hi m hm hm'
  refine ⟨_, _, isInt k, j, by simpa [hlen] using hjl, e2, fun y hy => eq_isInt k t hi y (by simpa using hy), by omega, ?_, ?_, ?_⟩
  · have := ev j (by omega) hjl
    simp only [List.getElem_toArray]
    rw [this]
    have := (List.getElem?_eq_some_iff.mp hjk).2
    simp [this]
  · intro m hm hmj
    have hm' : m < ns.length := by omega
    simp only [List.getElem_toArray]
    rw [ev m (by omega) hm']
    have := hno m hmj
    rw [List.getElem?_eq_getElem hm'] at this
    simpa using this
  · have g := R2.toks (t := s2.toks + 1)
    exact ⟨_, σ2, .int _ _, g.1, (x1.trans R1 x2).trans R2 g.2, q⟩

/-! slices -/
def AP (X : Cx) (o : Option Expr) (σ : St) (Q : Option Int → St → Prop) : Prop := match o with
  | none => Q none σ
  | some e => AE X e σ (fun V σ1 => ∃ i, V = .int i ∧ Q (some i) σ1)

theorem AP_run {o : Option Expr} {s : Shared} {K : Option Int → St → Prop} (h : AP X o σ K) (R : Rep X σ s) {Q' : Value → Shared → Prop}
    (hk : ∀ v i σ' s', IsPart v i → Rep X σ' s' → Ext X σ s σ' s' → K i σ' → Q' v s') : wpAny X.M X.A (valueOrNone (evalOpt o X.env)) Q' (fun _ _ => False) s := by
  cases o with
  | none => exact wpAny_pure (hk _ _ σ s .none R .refl h)
  | some e =>
    refine wpAny_mono (h s R) ?_ fun _ _ e => e
    rintro v s1 ⟨V, σ1, rv, R1, x1, i, rfl, q⟩
    obtain ⟨t, rfl⟩ := rv.int_inv
    exact hk _ _ σ1 s1 (.int i t) R1 x1 q

def pickV (vs : List Val) (lo hi st : Option Int) : List Val :=
  (sliceRange (sliceBounds lo hi st vs.length).1 (sliceBounds lo hi st vs.length).2.1 (sliceBounds lo hi st vs.length).2.2).filterMap (vs[·]?)

theorem rvs_filterMap {h : Heap} {mem : Mem} {vs : List Value} {Vs : List Val} (r : RVs h mem vs Vs) : ∀ idx : List Nat, RVs h mem (idx.filterMap (vs[·]?)) (idx.filterMap (Vs[·]?))
  | [] => .nil
  | i :: idx => by
    have ih := rvs_filterMap r idx
    cases e : Vs[i]? with
    | some V =>
      obtain ⟨v, hv, rv⟩ := r.get e
      rw [List.filterMap_cons_some hv, List.filterMap_cons_some e]
      exact .cons rv ih
    | none =>
      have hv : vs[i]? = none := by
        rw [List.getElem?_eq_none_iff] at e ⊢
        rw [r.length]; exact e
      rw [List.filterMap_cons_none hv, List.filterMap_cons_none e]
      exact ih

theorem slicePick_pickV {h : Heap} {mem : Mem} {items : List Value} {Vs : List Val} (r : RVs h mem items Vs) (lo hi st : Option Int) : ∃ its : List Value, slicePick items.toArray lo hi st = its.toArray ∧ RVs h mem its (pickV Vs lo hi st) := by
  refine ⟨_, rfl, ?_⟩
  unfold pickV
  have : items.toArray.size = Vs.length := by simp [r.length]
  rw [this]
  simpa using rvs_filterMap r _

theorem AE_slice {v : Expr} {lo hi st : Option Expr} {p : Pos} (hs : ∀ o x, ∃ ops, subscripted (.Slice lo hi st p) false o x = operate ops (getItem o x))
    (h : AE X v σ (fun a σ1 => AP X lo σ1 (fun l σ2 => AP X hi σ2 (fun u σ3 => AP X st σ3 (fun w σ4 => ∃ vs, SeqOf σ4 a vs ∧ vs.length ≤ 16777216 ∧ w ≠ some 0 ∧ Made σ4 (pickV vs l u w) Q))))) :
    AE X (.Subscript v (.Slice lo hi st p) pos) σ Q := fun s R => by
  refine Subscript_ (wpAny_mono (h s R) ?_ fun _ _ e => e)
  rintro va s1 ⟨a, σ1, ra, R1, x1, hk⟩
  show wpAny _ _ (do
    let l ← valueOrNone (evalOpt lo X.env)
    let u ← holding [l] (valueOrNone (evalOpt hi X.env))
    let w ← holding [l, u] (valueOrNone (evalOpt st X.env))
    newFields "slice" [l, u, w]) _ _ s1
  refine wpAny_bind (AP_run hk R1 fun vl il σ2 s2 pl R2 x2 hk2 => ?_)
  refine wpAny_bind (wpAny_holding (AP_run hk2 R2 fun vu iu σ3 s3 pu R3 x3 hk3 => ?_))
  refine wpAny_bind (wpAny_holding (AP_run hk3 R3 fun vw iw σ4 s4 pw R4 x4 hk4 => ?_))
  obtain ⟨vs, hsq, hlen, h0, M⟩ := hk4
  refine wpAny_newObj_type ?_
  have g := R4.grow (h' := s4.heap.push { cls := .type "slice", data := .fields #[vl, vu, vw] }) (t := s4.toks) fun b o e => Heap.get?_push_of_some _ e
  have x04 := ((x1.trans R1 x2).trans R2 x3).trans R3 x4
  have ra4 := x4.rv R3 (x3.rv R2 (x2.rv R1 ra))
  obtain ⟨l, items, k, rfl, e, rvs⟩ := hsq.open g.1 (g.2.rv R4 ra4)
  obtain ⟨ops, ho⟩ := hs (.ref l) (.ref s4.heap.objs.size)
  refine tail_any (PySem.IsL.isList e).typeIs slot_list_getitem.lookup ?_ ho
  refine wpAny_getItem_list_slice (PySem.IsL.isList e) (Heap.IsSliceOf.new s4.heap vl vu vw) pl pu pw h0 ?_ (sz (by simpa [rvs.length] using hlen))
  obtain ⟨its, eq, rits⟩ := slicePick_pickV rvs il iu iw
  rw [eq]
  obtain ⟨V, σ', r, R', x', q'⟩ := M.take (t := s4.toks) g.1 (heap_top_none _) (fun b o e => Heap.get?_push_of_some _ e) (Heap.get?_push_size (o := { cls := .type "list", data := .seq its.toArray }) _ rfl) rits
  exact ⟨V, σ', r, R', (x04.trans R4 g.2).trans g.1 x', q'⟩

theorem pickV_plain (vs : List Val) (lo hi : Option Int) : pickV vs lo hi none = (vs.drop (lo.elim 0 (clipAt vs.length))).take (hi.elim vs.length (clipAt vs.length) - lo.elim 0 (clipAt vs.length)) := by
  unfold pickV
  rw [sliceBounds_plain]
  simp only
  rw [sliceRange_one]
  generalize lo.elim 0 (clipAt vs.length) = a
  generalize hi.elim vs.length (clipAt vs.length) - a = k
  induction k generalizing a with
  | zero => simp
  | succ k ih =>
    rw [List.range_succ_eq_map, List.map_cons, List.map_map, List.filterMap_cons]
    have e : (List.map ((fun x => a + x) ∘ Nat.succ) (List.range k)) = List.map (fun x => (a + 1) + x) (List.range k) := by
      apply List.map_congr_left; intro x _; simp; omega
    rw [e, ih (a + 1)]
    by_cases h : a < vs.length
    · rw [Nat.add_zero, List.getElem?_eq_getElem h, List.drop_eq_getElem_cons h]
      rfl
    · rw [Nat.add_zero, List.getElem?_eq_none (by omega), List.drop_eq_nil_of_le (by omega), List.drop_eq_nil_of_le (by omega)]
      simp

/-! sums, the greatest, the least -/
theorem preSum_getD : ∀ (ns : List Int) (k : Nat), k ≤ ns.length → preSum (fun i => ns.getD i 0) k = (ns.take k).sum
  | ns, 0, _ => by simp [preSum]
  | ns, k + 1, h => by
    have ih := preSum_getD ns k (by omega)
    show preSum (fun i => ns.getD i 0) k + ns.getD k 0 = _
    have hk : k < ns.length := by omega
    rw [ih, List.take_add_one, List.getElem?_eq_getElem hk, List.sum_append]
    simp [hk]

theorem take_snoc {ns : List Int} {k : Nat} (h : k < ns.length) : ns.take (k + 1) = ns.take k ++ [ns.getD k 0] := by
  rw [List.take_add_one, List.getElem?_eq_getElem h]
  simp [h]

theorem BC_sum (ok : X.Ok n) {V : Val} {ns : List Int} (hs : SeqOf σ V (ns.map Val.int)) (h : Q (.int ns.sum) σ) : BC X (.builtin "sum") [V] σ Q := fun s v R rv => by
  cases rv with
  | cons a r =>
    cases r
    obtain ⟨l, items, k, rfl, e, rvs⟩ := hs.open R a
    have hi := rvs.ints
    have hl := PySem.IsL.isList e
    have hne : l ≠ s.heap.objs.size := Nat.ne_of_lt (Heap.lt_size e)
    refine call_sum_walkG (wpAny_pyIter_list hl ?_)
    refine ⟨_, _, _, _, _, _, fun i => ns.getD i 0, rfl, Walks.list (A := X.A.in1) ok.handled s.heap.objs.size l hne items.toArray, ⟨⟨_, Heap.get?_push_size _ rfl, rfl, rfl⟩, hl.push _⟩, ?_, ?_, ?_⟩
    · intro b hb
      have := Heap.lt_size e
      have hb' : b = s.heap.objs.size ∨ b = l := by simpa using hb
      rw [Heap.size_push]
      rcases hb' with rfl | rfl
      · exact Nat.lt_succ_self _
      · exact Nat.lt_succ_of_lt this
    · intro i v hv
      have hv' : items[i]? = some v := by simpa using hv
      have hil : i < ns.length := by
        rw [← hi.length]; exact (List.getElem?_eq_some_iff.mp hv').1
      obtain ⟨t, ht⟩ := hi.get i ns[i] (List.getElem?_eq_getElem hil)
      rw [ht] at hv'
      refine ⟨t, ?_⟩
      cases hv'
      simp [hil]
    · intro h' tk t' hk
      have kp : ∀ b o, s.heap.get? b = some o → h'.get? b = some o := fun b o e => hk b o (fun q => by
        have hb : b = s.heap.objs.size := by simpa using q
        rw [hb, heap_top_none] at e; cases e) (Heap.get?_push_of_some _ e)
      have g := R.grow (t := tk) kp
      refine ⟨_, σ, ?_, g.1, g.2, h⟩
      have es : preSum (fun i => ns.getD i 0) items.toArray.size = ns.sum := by
        rw [show items.toArray.size = ns.length from by simp [hi.length], preSum_getD ns ns.length (Nat.le_refl _), List.take_length]
      rw [es]
      exact .int _ _

def maxL : List Int → Int
  | [] => 0
  | x :: r => r.foldl max x
def minL : List Int → Int
  | [] => 0
  | x :: r => r.foldl min x
theorem maxL_snoc {l : List Int} (h : l ≠ []) (y : Int) : maxL (l ++ [y]) = max (maxL l) y := by
  cases l with
  | nil => exact absurd rfl h
  | cons x r => simp [maxL, List.foldl_append]
theorem minL_snoc {l : List Int} (h : l ≠ []) (y : Int) : minL (l ++ [y]) = min (minL l) y := by
  cases l with
  | nil => exact absurd rfl h
  | cons x r => simp [minL, List.foldl_append]

theorem argBest_max (ns : List Int) : ∀ k, k < ns.length → argBest (fun i j => decide (ns.getD i 0 > ns.getD j 0)) k < ns.length ∧ ns.getD (argBest (fun i j => decide (ns.getD i 0 > ns.getD j 0)) k) 0 = maxL (ns.take (k + 1))
  | 0, h => by
    cases ns with
    | nil => simp at h
    | cons x r => exact ⟨Nat.zero_lt_succ _, by simp [argBest, maxL]⟩
  | k + 1, h => by
    obtain ⟨h1, h2⟩ := argBest_max ns k (by omega)
    have es : maxL (ns.take (k + 1 + 1)) = max (maxL (ns.take (k + 1))) (ns.getD (k + 1) 0) := by
      rw [take_snoc h, maxL_snoc]
      intro q
      have : (ns.take (k + 1)).length = 0 := by rw [q]; rfl
      rw [List.length_take] at this; omega
    show (if _ then k + 1 else _) < _ ∧ ns.getD (if _ then k + 1 else _) 0 = _
    rw [es, ← h2]
    split
    · rename_i hc
      have hc' := of_decide_eq_true hc
      exact ⟨h, by omega⟩
    · rename_i hc
      have hc' : ¬ (ns.getD (k + 1) 0 > ns.getD (argBest (fun i j => decide (ns.getD i 0 > ns.getD j 0)) k) 0) := fun q => hc (decide_eq_true q)
      exact ⟨h1, by omega⟩
theorem argBest_min (ns : List Int) : ∀ k, k < ns.length → argBest (fun i j => decide (ns.getD i 0 < ns.getD j 0)) k < ns.length ∧ ns.getD (argBest (fun i j => decide (ns.getD i 0 < ns.getD j 0)) k) 0 = minL (ns.take (k + 1))
  | 0, h => by
    cases ns with
    | nil => simp at h
    | cons x r => exact ⟨Nat.zero_lt_succ _, by simp [argBest, minL]⟩
  | k + 1, h => by
    obtain ⟨h1, h2⟩ := argBest_min ns k (by omega)
    have es : minL (ns.take (k + 1 + 1)) = min (minL (ns.take (k + 1))) (ns.getD (k + 1) 0) := by
      rw [take_snoc h, minL_snoc]
      intro q
      have : (ns.take (k + 1)).length = 0 := by rw [q]; rfl
      rw [List.length_take] at this; omega
    show (if _ then k + 1 else _) < _ ∧ ns.getD (if _ then k + 1 else _) 0 = _
    rw [es, ← h2]
    split
    · rename_i hc
      have hc' := of_decide_eq_true hc
      exact ⟨h, by omega⟩
    · rename_i hc
      have hc' : ¬ (ns.getD (k + 1) 0 < ns.getD (argBest (fun i j => decide (ns.getD i 0 < ns.getD j 0)) k) 0) := fun q => hc (decide_eq_true q)
      exact ⟨h1, by omega⟩

theorem ints_at {items : List Value} {ns : List Int} (hi : IntsAre items ns) {i : Nat} {v : Value} (hv : items.toArray[i]? = some v) : ∃ t, v = .int (ns.getD i 0) t := by
  have hv' : items[i]? = some v := by simpa using hv
  have hil : i < ns.length := by
    rw [← hi.length]; exact (List.getElem?_eq_some_iff.mp hv').1
  obtain ⟨t, ht⟩ := hi.get i ns[i] (List.getElem?_eq_getElem hil)
  rw [ht] at hv'
  refine ⟨t, ?_⟩
  cases hv'
  simp [hil]

theorem BC_max (ok : X.Ok n) {V : Val} {ns : List Int} (hs : SeqOf σ V (ns.map Val.int)) (h0 : ns ≠ []) (h : Q (.int (maxL ns)) σ) : BC X (.builtin "max") [V] σ Q := fun s v R rv => by
  cases rv with
  | cons a r =>
    cases r
    obtain ⟨l, items, k, rfl, e, rvs⟩ := hs.open R a
    have hi := rvs.ints
    have hl := PySem.IsL.isList e
    have hne : l ≠ s.heap.objs.size := Nat.ne_of_lt (Heap.lt_size e)
    have hlen : items.toArray.size = ns.length := by simp [hi.length]
    have hpos : 0 < ns.length := List.length_pos_iff.mpr h0
    refine call_max_walk (wpAny_pyIter_list hl ?_)
    refine ⟨_, _, _, _, _, _, fun i j => decide (ns.getD i 0 > ns.getD j 0), rfl, Walks.list (A := X.A.in1) ok.handled s.heap.objs.size l hne items.toArray, ⟨⟨_, Heap.get?_push_size _ rfl, rfl, rfl⟩, hl.push _⟩, ?_, by rw [hlen]; exact hpos, ?_, ?_⟩
    · intro b hb
      have := Heap.lt_size e
      have hb' : b = s.heap.objs.size ∨ b = l := by simpa using hb
      rw [Heap.size_push]
      rcases hb' with rfl | rfl
      · exact Nat.lt_succ_self _
      · exact Nat.lt_succ_of_lt this
    · intro i j vi vj s' Q' E' hvi hvj hQ
      obtain ⟨t, rfl⟩ := ints_at hi hvi
      obtain ⟨u, rfl⟩ := ints_at hi hvj
      exact (show wpAny _ _ (compareOp .Gt _ _) _ _ _ from PyProof.Rows.gt_int hQ)
    · intro v h' tk hv hk
      have kp : ∀ b o, s.heap.get? b = some o → h'.get? b = some o := fun b o e => hk b o (fun q => by
        have hb : b = s.heap.objs.size := by simpa using q
        rw [hb, heap_top_none] at e; cases e) (Heap.get?_push_of_some _ e)
      have g := R.grow (t := tk) kp
      obtain ⟨t, rfl⟩ := ints_at hi hv
      refine ⟨_, σ, ?_, g.1, g.2, h⟩
      rw [hlen, (argBest_max ns (ns.length - 1) (by omega)).2, show ns.length - 1 + 1 = ns.length from by omega, List.take_length]
      exact .int _ _
theorem BC_min (ok : X.Ok n) {V : Val} {ns : List Int} (hs : SeqOf σ V (ns.map Val.int)) (h0 : ns ≠ []) (h : Q (.int (minL ns)) σ) : BC X (.builtin "min") [V] σ Q := fun s v R rv => by
  cases rv with
  | cons a r =>
    cases r
    obtain ⟨l, items, k, rfl, e, rvs⟩ := hs.open R a
    have hi := rvs.ints
    have hl := PySem.IsL.isList e
    have hne : l ≠ s.heap.objs.size := Nat.ne_of_lt (Heap.lt_size e)
    have hlen : items.toArray.size = ns.length := by simp [hi.length]
    have hpos : 0 < ns.length := List.length_pos_iff.mpr h0
    refine call_min_walk (wpAny_pyIter_list hl ?_)
    refine ⟨_, _, _, _, _, _, fun i j => decide (ns.getD i 0 < ns.getD j 0), rfl, Walks.list (A := X.A.in1) ok.handled s.heap.objs.size l hne items.toArray, ⟨⟨_, Heap.get?_push_size _ rfl, rfl, rfl⟩, hl.push _⟩, ?_, by rw [hlen]; exact hpos, ?_, ?_⟩
    · intro b hb
      have := Heap.lt_size e
      have hb' : b = s.heap.objs.size ∨ b = l := by simpa using hb
      rw [Heap.size_push]
      rcases hb' with rfl | rfl
      · exact Nat.lt_succ_self _
      · exact Nat.lt_succ_of_lt this
    · intro i j vi vj s' Q' E' hvi hvj hQ
      obtain ⟨t, rfl⟩ := ints_at hi hvi
      obtain ⟨u, rfl⟩ := ints_at hi hvj
      exact (show wpAny _ _ (compareOp .Lt _ _) _ _ _ from PyProof.Rows.lt_int hQ)
    · intro v h' tk hv hk
      have kp : ∀ b o, s.heap.get? b = some o → h'.get? b = some o := fun b o e => hk b o (fun q => by
        have hb : b = s.heap.objs.size := by simpa using q
        rw [hb, heap_top_none] at e; cases e) (Heap.get?_push_of_some _ e)
      have g := R.grow (t := tk) kp
      obtain ⟨t, rfl⟩ := ints_at hi hv
      refine ⟨_, σ, ?_, g.1, g.2, h⟩
      rw [hlen, (argBest_min ns (ns.length - 1) (by omega)).2, show ns.length - 1 + 1 = ns.length from by omega, List.take_length]
      exact .int _ _

/-- of two ints -/
theorem BC_max2 (ok : X.Ok n) {a b : Int} (h : Q (.int (max a b)) σ) : BC X (.builtin "max") [.int a, .int b] σ Q := fun s v R rv => by
  cases rv with
  | cons ra r => cases r with | cons rb r =>
    cases r
    obtain ⟨t, rfl⟩ := ra.int_inv; obtain ⟨u, rfl⟩ := rb.int_inv
    have hT : (s.heap.push { cls := .type "tuple", data := .seq #[Value.int a t, Value.int b u] }).IsTuple s.heap.objs.size #[Value.int a t, Value.int b u] := ⟨_, Heap.get?_push_size _ rfl, rfl, _, rfl⟩
    have hi : IntsAre [Value.int a t, Value.int b u] [a, b] := .cons _ _ (.cons _ _ .nil)
    refine call_max_two (wpAny_pyIter_tuple hT ?_)
    have hne : s.heap.objs.size ≠ (s.heap.push { cls := .type "tuple", data := .seq #[Value.int a t, Value.int b u] }).objs.size := by rw [Heap.size_push]; exact Nat.ne_of_lt (Nat.lt_succ_self _)
    refine ⟨_, _, _, _, _, _, fun i j => decide ([a, b].getD i 0 > [a, b].getD j 0), rfl, Walks.tuple (A := X.A.in1) ok.handled _ s.heap.objs.size hne #[Value.int a t, Value.int b u], ⟨⟨_, Heap.get?_push_size _ rfl, rfl, rfl⟩, hT.push _⟩, ?_, by simp, ?_, ?_⟩
    · intro c hc
      have hc' : c = (s.heap.push { cls := .type "tuple", data := .seq #[Value.int a t, Value.int b u] }).objs.size ∨ c = s.heap.objs.size := by simpa using hc
      dsimp only at hc' ⊢
      rw [Heap.size_push] at hc'
      rw [Heap.size_push, Heap.size_push]
      rcases hc' with rfl | rfl
      · exact Nat.lt_succ_self _
      · exact Nat.lt_succ_of_lt (Nat.lt_succ_self _)
    · intro i j vi vj s' Q' E' hvi hvj hQ
      obtain ⟨t, rfl⟩ := ints_at hi hvi
      obtain ⟨u, rfl⟩ := ints_at hi hvj
      exact (show wpAny _ _ (compareOp .Gt _ _) _ _ _ from PyProof.Rows.gt_int hQ)
    · intro v h' tk hv hk
      have kp : ∀ b o, s.heap.get? b = some o → h'.get? b = some o := fun c o e => hk c o (fun q => by
        have hb := List.mem_singleton.mp q
        try dsimp only at hb
        rw [Heap.size_push] at hb
        have := Heap.lt_size e
        rw [hb] at this
        exact absurd this (Nat.not_lt.mpr (Nat.le_succ _))) (Heap.get?_push_of_some _ (Heap.get?_push_of_some _ e))
      have g := R.grow (t := tk) kp
      obtain ⟨t, rfl⟩ := ints_at hi hv
      refine ⟨_, σ, ?_, g.1, g.2, h⟩
      have := (argBest_max [a, b] 1 (by simp)).2
      simp only [List.size_toArray, List.length_cons, List.length_nil] at *
      rw [this]
      simpa [maxL] using RV.int (h := h') (mem := σ.mem) (max a b) t
theorem BC_min2 (ok : X.Ok n) {a b : Int} (h : Q (.int (min a b)) σ) : BC X (.builtin "min") [.int a, .int b] σ Q := fun s v R rv => by
  cases rv with
  | cons ra r => cases r with | cons rb r =>
    cases r
    obtain ⟨t, rfl⟩ := ra.int_inv; obtain ⟨u, rfl⟩ := rb.int_inv
    have hT : (s.heap.push { cls := .type "tuple", data := .seq #[Value.int a t, Value.int b u] }).IsTuple s.heap.objs.size #[Value.int a t, Value.int b u] := ⟨_, Heap.get?_push_size _ rfl, rfl, _, rfl⟩
    have hi : IntsAre [Value.int a t, Value.int b u] [a, b] := .cons _ _ (.cons _ _ .nil)
    refine call_min_two (wpAny_pyIter_tuple hT ?_)
    have hne : s.heap.objs.size ≠ (s.heap.push { cls := .type "tuple", data := .seq #[Value.int a t, Value.int b u] }).objs.size := by rw [Heap.size_push]; exact Nat.ne_of_lt (Nat.lt_succ_self _)
    refine ⟨_, _, _, _, _, _, fun i j => decide ([a, b].getD i 0 < [a, b].getD j 0), rfl, Walks.tuple (A := X.A.in1) ok.handled _ s.heap.objs.size hne #[Value.int a t, Value.int b u], ⟨⟨_, Heap.get?_push_size _ rfl, rfl, rfl⟩, hT.push _⟩, ?_, by simp, ?_, ?_⟩
    · intro c hc
      have hc' : c = (s.heap.push { cls := .type "tuple", data := .seq #[Value.int a t, Value.int b u] }).objs.size ∨ c = s.heap.objs.size := by simpa using hc
      dsimp only at hc' ⊢
      rw [Heap.size_push] at hc'
      rw [Heap.size_push, Heap.size_push]
      rcases hc' with rfl | rfl
      · exact Nat.lt_succ_self _
      · exact Nat.lt_succ_of_lt (Nat.lt_succ_self _)
    · intro i j vi vj s' Q' E' hvi hvj hQ
      obtain ⟨t, rfl⟩ := ints_at hi hvi
      obtain ⟨u, rfl⟩ := ints_at hi hvj
      exact (show wpAny _ _ (compareOp .Lt _ _) _ _ _ from PyProof.Rows.lt_int hQ)
    · intro v h' tk hv hk
      have kp : ∀ b o, s.heap.get? b = some o → h'.get? b = some o := fun c o e => hk c o (fun q => by
        have hb := List.mem_singleton.mp q
        try dsimp only at hb
        rw [Heap.size_push] at hb
        have := Heap.lt_size e
        rw [hb] at this
        exact absurd this (Nat.not_lt.mpr (Nat.le_succ _))) (Heap.get?_push_of_some _ (Heap.get?_push_of_some _ e))
      have g := R.grow (t := tk) kp
      obtain ⟨t, rfl⟩ := ints_at hi hv
      refine ⟨_, σ, ?_, g.1, g.2, h⟩
      have := (argBest_min [a, b] 1 (by simp)).2
      simp only [List.size_toArray, List.length_cons, List.length_nil] at *
      rw [this]
      simpa [minL] using RV.int (h := h') (mem := σ.mem) (min a b) t
theorem BC_abs {a : Int} (h : Q (.int a.natAbs) σ) : BC X (.builtin "abs") [.int a] σ Q := fun s v R rv => by
  cases rv with
  | cons ra r =>
    cases r
    obtain ⟨t, rfl⟩ := ra.int_inv
    refine PyProof.Rows.call_abs_int fun u tk => ?_
    have g := R.toks (t := tk)
    refine ⟨_, σ, ?_, g.1, g.2, h⟩
    rw [show (if a < 0 then -a else a) = (a.natAbs : Int) from by split <;> omega]
    exact .int _ _
end

end Mine
end
section
open PySem PySem.W PyProof.Rows PySem.Calls
namespace Mine

section
variable {X : Cx} {σ : St} {n : Nat} {pos p : Pos}

/-! a built-in type, called -/
theorem call_type_run (ok : X.Ok n) {x : Str} {T : String} {e : Expr} {args : List Expr} {s : Shared} {K : List Val → St → Prop} (N : BName X x (.type T)) (he : starEach (e :: args) X.env = (false, eval e X.env) :: starEach args X.env)
    (hp : (backTo pos (starEach args X.env)).any (·.1) = false) (h : AEs X pos (e :: args) σ K) (R : Rep X σ s) {Q' : Value → Shared → Prop}
    (hk : ∀ vs Vs σ' s', RVs s'.heap σ'.mem vs Vs → Rep X σ' s' → Ext X σ s σ' s' → K Vs σ' → wpAny X.M X.A (call (.type T) vs) Q' (fun _ _ => False) s') :
    wpAny X.M X.A (eval (.Call (.Name x p) (e :: args) [] pos) X.env) Q' (fun _ _ => False) s := by
  refine PyProof.Rows.Call_ (name_builtin ok R N.kind N.dbg N.free N.ne N.boot ?_)
  have h' : wpAny X.M X.A (spliced (backTo pos (starEach (e :: args) X.env))) (fun vs s' => wpAny X.M X.A (call (.type T) ([] ++ vs) []) Q' (fun _ _ => False) s') (fun _ _ => False) s := by
    refine wpAny_mono (h s R) ?_ fun _ _ e => e
    rintro vs s1 ⟨Vs, σ1, rvs, R1, x1, q⟩
    exact hk vs Vs σ1 s1 rvs R1 x1 q
  rw [he] at h' ⊢
  exact PyProof.Rows.callWith_type (by show (false || (backTo pos (starEach args X.env)).any (·.1)) = false; rw [hp]; rfl) (evalArgs_plain h')

theorem AE_type (ok : X.Ok n) {x : Str} {T : String} {e : Expr} {args : List Expr} {Q : Val → St → Prop} (N : BName X x (.type T)) (he : starEach (e :: args) X.env = (false, eval e X.env) :: starEach args X.env)
    (hp : (backTo pos (starEach args X.env)).any (·.1) = false) (h : AEs X pos (e :: args) σ (fun Vs σ1 => BC X (.type T) Vs σ1 Q)) : AE X (.Call (.Name x p) (e :: args) [] pos) σ Q := fun s R =>
  call_type_run ok N he hp h R fun vs Vs σ' s' rvs R' x' hc => (hc s' vs R' rvs).then R' x'

/-- list(xs) -/
theorem BC_listcopy {V : Val} {vs : List Val} {Q : Val → St → Prop} (hs : SeqOf σ V vs) (hl : vs.length ≤ 16777216) (h : Made σ vs Q) : BC X (.type "list") [V] σ Q := fun s v R rv => by
  cases rv with
  | cons a r =>
    cases r
    obtain ⟨l, items, k, rfl, e, rvs⟩ := hs.open R a
    refine call_list_seq l (T := "list") (.inl rfl) e rfl rfl (fun h' c' hk hn => ?_) (sz (by simpa [rvs.length] using hl))
    exact h.take (t := s.toks) R (heap_top_none _) hk hn rvs

/-! ranges -/
def rangeL (a b c : Int) : List Int := (List.range (Builtin.Range.rangeSize a b c).toNat).map fun (i : Nat) => a + (i : Int) * c

theorem rangeSize_nonneg (a b c : Int) (hc : c ≠ 0) : 0 ≤ Builtin.Range.rangeSize a b c := by
  unfold Builtin.Range.rangeSize
  split
  · split
    · have : 0 ≤ (b - a - 1) / c := Int.ediv_nonneg (by omega) (by omega)
      omega
    · exact Int.le_refl _
  · split
    · have : 0 ≤ (a - b - 1) / -c := Int.ediv_nonneg (by omega) (by omega)
      omega
    · exact Int.le_refl _

theorem touch_one {s : Shared} {h' : Heap} {t : Nat} {I : Addr} (R : Rep X σ s) (hk : ∀ b o, b ≠ I → s.heap.get? b = some o → h'.get? b = some o) (h1 : X.B.h₁.get? I = none) (hL : I ≠ X.f.L) (hm : σ.mem I = none)
    (ho : ∀ o, s.heap.get? I = some o → ¬ isSeqObj o ∧ ∀ v, o.data ≠ .cell v) : Rep X σ { s with heap := h', toks := t } :=
  R.touch (W := (· = I)) (fun b o q e => hk b o q e) fun b q => by subst q; exact ⟨h1, hL, hm, ho⟩

theorem It.range (ok : X.Ok n) {tg : Expr} (ht : ∃ x p, tg = .Name x p) {I : Addr} {a c : Int} {m : Nat} (hI1 : X.B.h₁.get? I = none) (hIL : I ≠ X.f.L) (hIo : I ∉ X.f.own) :
    It X tg I (· = I) (fun i σ h => IsRangeIter h I (a + (i : Int) * c) ((m : Int) - i) c ∧ σ.mem I = none) ((List.range m).map fun (i : Nat) => Val.int (a + (i : Int) * c)) (fun _ => True) where
  frame := by
    rintro i σ s σ' s' ⟨hit, hm⟩ R x R' _
    exact ⟨x.keep I _ hit hm hIL hIo, x.mem I _ hit hm⟩
  turn := by
    rintro i σ s W R ⟨hit, hm⟩ hV
    obtain ⟨x, p, rfl⟩ := ht
    have him : i < m := by
      have := (List.getElem?_eq_some_iff.mp hV).1
      simpa using this
    have eW : W = Val.int (a + (i : Int) * c) := by
      rw [List.getElem?_map, List.getElem?_range him] at hV
      exact (Option.some.inj hV).symm
    subst eW
    refine wpAny_pyNext_range_item hit (by omega) fun h' hit' hs' => ⟨_, rfl, wpAny_pure ?_⟩
    refine ⟨h', s.toks + 1, rfl, touch_one R (fun b o q e => hs'.extBut b o q e) hI1 hIL hm (fun o ho => ?_), .int _ _, ⟨?_, hm⟩, fun b o q e => hs'.extBut b o q e⟩
    · rw [hit] at ho; cases ho
      exact ⟨(fun ⟨_, _, q⟩ => nomatch q), (fun v q => nomatch q)⟩
    · have e1 : a + ((i + 1 : Nat) : Int) * c = a + (i : Int) * c + c := by push_cast; rw [Int.add_mul, Int.one_mul, Int.add_assoc]
      have e2 : (m : Int) - ((i + 1 : Nat) : Int) = (m : Int) - (i : Int) - 1 := by push_cast; omega
      rw [e1, e2]; exact hit'
  done := by
    rintro σ s R ⟨hit, hm⟩
    refine wpAny_pyNext_range_end ok.handled hit (by simp) fun h' hx => ⟨rfl, h', s.toks, rfl, touch_one R (fun b o q e => hx b o q e) hI1 hIL hm (fun o ho => ?_), fun b o q e => hx b o q e⟩
    rw [hit] at ho; cases ho
    exact ⟨(fun ⟨_, _, q⟩ => nomatch q), (fun v q => nomatch q)⟩
  self := fun i σ s ⟨hit, _⟩ => wpAny_pyIter_rangeiter hit ⟨rfl, rfl⟩

/-- a range object at hand -/
theorem range_iter {tg : Expr} (ht : ∃ x p, tg = .Name x p) {a b c : Int} {t u v : Tok} {r : Addr} {s s' : Shared} {σ' : St} {K : List Val → (St → Prop) → St → Prop} (hc : c ≠ 0) (hsm : Builtin.Range.small a b c = true)
    (R' : Rep X σ' s') (x' : Ext X σ s σ' s') (hr : IsRange s'.heap r a b c t u v) (hK : K ((rangeL a b c).map Val.int) (fun _ => True) σ') :
    wpAny X.M X.A (pyIter (.ref r)) (fun it s2 => Walking X tg σ s K it s2) (fun _ _ => False) s' := by
  refine wpAny_pyIter_range hr hsm ?_
  have g := R'.grow (h' := s'.heap.push { cls := .type "range_iterator", data := .fields #[rawInt a, rawInt (Builtin.Range.rangeSize a b c), rawInt c] }) (t := s'.toks) fun b o e => Heap.get?_push_of_some _ e
  have tp := R'.top
  have hn : ((Builtin.Range.rangeSize a b c).toNat : Int) = Builtin.Range.rangeSize a b c := Int.toNat_of_nonneg (rangeSize_nonneg a b c hc)
  refine ⟨s'.heap.objs.size, (· = s'.heap.objs.size), _, _, _, σ', rfl, fun X' eB eA ⟨n', ok'⟩ hd => It.range ok' ht (a := a) (c := c) (m := (Builtin.Range.rangeSize a b c).toNat) (eB ▸ tp.1) (hd _ rfl).1 (hd _ rfl).2, ⟨?_, tp.2.2.2⟩, g.1, x'.trans R' g.2, ?_, trivial, ?_⟩
  · show IsRangeIter _ _ _ _ _
    rw [hn]
    have := Heap.get?_push_size s'.heap (o := { cls := .type "range_iterator", data := .fields #[rawInt a, rawInt (Builtin.Range.rangeSize a b c), rawInt c] }) rfl
    simpa using this
  · rintro b rfl
    refine ⟨?_, tp.2.1, tp.2.2.1, _, Heap.get?_push_size _ rfl, (fun ⟨_, _, q⟩ => nomatch q), (fun v q => nomatch q)⟩
    cases q : s.heap.get? s'.heap.objs.size with
    | none => rfl
    | some o =>
      obtain ⟨o', e'⟩ := x'.live _ o q
      rw [heap_top_none] at e'; cases e'
  · have e : (rangeL a b c).map Val.int = (List.range (Builtin.Range.rangeSize a b c).toNat).map fun (i : Nat) => Val.int (a + (i : Int) * c) := by
      unfold rangeL; rw [List.map_map]; rfl
    rw [← e]; exact hK

theorem pushed {s : Shared} {o : Obj} {t : Nat} (R : Rep X σ s) : Rep X σ { s with heap := s.heap.push o, toks := t } ∧ Ext X σ s σ { s with heap := s.heap.push o, toks := t } := R.grow fun _ _ e => Heap.get?_push_of_some _ e

theorem AI_range1 (ok : X.Ok n) {tg e : Expr} {K : List Val → (St → Prop) → St → Prop} (ht : ∃ x p, tg = .Name x p) (N : BName X (Str.ofString "range") (.type "range"))
    (he : starEach [e] X.env = [(false, eval e X.env)]) (h : AE X e σ (fun V σ1 => ∃ b, V = .int b ∧ Builtin.Range.small 0 b 1 = true ∧ K ((rangeL 0 b 1).map Val.int) (fun _ => True) σ1)) :
    AI X tg (.Call (.Name (Str.ofString "range") p) [e] [] pos) σ K := fun s R => by
  refine call_type_run (K := fun Vs σ1 => ∃ b, Vs = [.int b] ∧ Builtin.Range.small 0 b 1 = true ∧ K ((rangeL 0 b 1).map Val.int) (fun _ => True) σ1) ok N he (by rfl) (AEs_cons he (h.mono fun V σ1 ⟨b, hV, h1, h2⟩ => AEs_nil ⟨b, by rw [hV], h1, h2⟩)) R ?_
  rintro vs Vs σ' s' rvs R' x' ⟨b, rfl, hsm, hK⟩
  cases rvs with
  | cons rv r =>
    cases r
    obtain ⟨t, rfl⟩ := rv.int_inv
    refine call_range_1 ?_
    have g := pushed (o := { cls := .type "range", data := .fields #[.int 0 s'.toks, .int b t, .int 1 (s'.toks + 1)] }) (t := s'.toks + 1 + 1) R'
    exact range_iter ht (by decide) hsm g.1 (x'.trans R' g.2) (Heap.get?_push_size _ rfl) hK

theorem AI_range2 (ok : X.Ok n) {tg e e' : Expr} {K : List Val → (St → Prop) → St → Prop} (ht : ∃ x p, tg = .Name x p) (N : BName X (Str.ofString "range") (.type "range"))
    (he : starEach [e, e'] X.env = (false, eval e X.env) :: starEach [e'] X.env) (he' : starEach [e'] X.env = [(false, eval e' X.env)])
    (h : AE X e σ (fun V σ1 => AE X e' σ1 (fun V' σ2 => ∃ a b, V = .int a ∧ V' = .int b ∧ Builtin.Range.small a b 1 = true ∧ K ((rangeL a b 1).map Val.int) (fun _ => True) σ2))) :
    AI X tg (.Call (.Name (Str.ofString "range") p) [e, e'] [] pos) σ K := fun s R => by
  refine call_type_run (K := fun Vs σ1 => ∃ a b, Vs = [.int a, .int b] ∧ Builtin.Range.small a b 1 = true ∧ K ((rangeL a b 1).map Val.int) (fun _ => True) σ1) ok N he (by rw [he']; rfl)
    (AEs_cons he (h.mono fun V σ1 h1 => AEs_cons he' (h1.mono fun V' σ2 ⟨a, b, hV, hV', h2, h3⟩ => AEs_nil ⟨a, b, by rw [hV, hV'], h2, h3⟩))) R ?_
  rintro vs Vs σ' s' rvs R' x' ⟨a, b, rfl, hsm, hK⟩
  cases rvs with
  | cons rv r =>
    cases r with
    | cons rw r =>
      cases r
      obtain ⟨t, rfl⟩ := rv.int_inv
      obtain ⟨u, rfl⟩ := rw.int_inv
      refine call_range_2 ?_
      have g := pushed (o := { cls := .type "range", data := .fields #[.int a t, .int b u, .int 1 s'.toks] }) (t := s'.toks + 1) R'
      exact range_iter ht (by decide) hsm g.1 (x'.trans R' g.2) (Heap.get?_push_size _ rfl) hK

theorem AI_range3 (ok : X.Ok n) {tg e e' e'' : Expr} {K : List Val → (St → Prop) → St → Prop} (ht : ∃ x p, tg = .Name x p) (N : BName X (Str.ofString "range") (.type "range"))
    (he : starEach [e, e', e''] X.env = (false, eval e X.env) :: starEach [e', e''] X.env) (he' : starEach [e', e''] X.env = (false, eval e' X.env) :: starEach [e''] X.env) (he'' : starEach [e''] X.env = [(false, eval e'' X.env)])
    (h : AE X e σ (fun V σ1 => AE X e' σ1 (fun V' σ2 => AE X e'' σ2 (fun V'' σ3 => ∃ a b c, V = .int a ∧ V' = .int b ∧ V'' = .int c ∧ c ≠ 0 ∧ Builtin.divisionGoesByPylong (b - a) c = false ∧ Builtin.Range.small a b c = true ∧ K ((rangeL a b c).map Val.int) (fun _ => True) σ3)))) :
    AI X tg (.Call (.Name (Str.ofString "range") p) [e, e', e''] [] pos) σ K := fun s R => by
  refine call_type_run (K := fun Vs σ1 => ∃ a b c, Vs = [.int a, .int b, .int c] ∧ c ≠ 0 ∧ Builtin.divisionGoesByPylong (b - a) c = false ∧ Builtin.Range.small a b c = true ∧ K ((rangeL a b c).map Val.int) (fun _ => True) σ1) ok N he (by rw [he', he'']; rfl)
    (AEs_cons he (h.mono fun V σ1 h1 => AEs_cons he' (h1.mono fun V' σ2 h2 => AEs_cons he'' (h2.mono fun V'' σ3 ⟨a, b, c, hV, hV', hV'', h2, h3⟩ => AEs_nil ⟨a, b, c, by rw [hV, hV', hV''], h2, h3⟩)))) R ?_
  rintro vs Vs σ' s' rvs R' x' ⟨a, b, c, rfl, hc, hpl, hsm, hK⟩
  cases rvs with
  | cons rv r =>
    cases r with
    | cons rw r =>
      cases r with
      | cons rz r =>
        cases r
        obtain ⟨t, rfl⟩ := rv.int_inv
        obtain ⟨u, rfl⟩ := rw.int_inv
        obtain ⟨v, rfl⟩ := rz.int_inv
        refine call_range_3 hc ?_ (.inl hpl)
        have g := pushed (o := { cls := .type "range", data := .fields #[.int a t, .int b u, .int c v] }) (t := s'.toks) R'
        exact range_iter ht hc hsm g.1 (x'.trans R' g.2) (Heap.get?_push_size _ rfl) hK

theorem small_1 {a b : Int} (ha : -(2 ^ 40) ≤ a) (ha' : a ≤ 2 ^ 40) (hb : -(2 ^ 40) ≤ b) (hb' : b ≤ 2 ^ 40) : Builtin.Range.small a b 1 = true := by
  have e : Builtin.Range.rangeSize a b 1 = if a < b then b - a else 0 := by
    unfold Builtin.Range.rangeSize
    rw [if_pos (by decide)]
    split
    · rw [Int.ediv_one]; omega
    · rfl
  unfold Builtin.Range.small
  rw [e]
  simp only [Builtin.Range.rangeFitsLong, Bool.and_eq_true, Bool.or_eq_true, decide_eq_true_eq, beq_iff_eq]
  split <;> simp <;> omega

theorem rangeL_1 (a b : Int) : rangeL a b 1 = (List.range (b - a).toNat).map fun (i : Nat) => a + (i : Int) := by
  have e : (Builtin.Range.rangeSize a b 1).toNat = (b - a).toNat := by
    unfold Builtin.Range.rangeSize
    rw [if_pos (by decide)]
    split
    · rw [Int.ediv_one]; congr 1; omega
    · simp; omega
  unfold rangeL
  rw [e]
  simp

/-! enumerate -/
theorem It.enum (ok : X.Ok n) {tg : Expr} (ht : ∃ ts k p, tg = .Tuple ts k p) {I J l : Addr} {V : Val} {vs : List Val} (hIJ : I ≠ J) (hI1 : X.B.h₁.get? I = none) (hIL : I ≠ X.f.L) (hIo : I ∉ X.f.own) (hJ1 : X.B.h₁.get? J = none) (hJL : J ≠ X.f.L) (hJo : J ∉ X.f.own) :
    It X tg I (fun b => b = I ∨ b = J) (fun i σ h => (∃ old, IsEnum h I J i old) ∧ h.IsListIter J l i ∧ σ.mem I = none ∧ σ.mem J = none ∧ RV h σ.mem (.ref l) V ∧ SeqOf σ V vs) (vs.mapIdx fun i v => Val.tup [.int i, v]) (fun σ => SeqOf σ V vs) where
  frame := by
    rintro i σ s σ' s' ⟨⟨old, he⟩, ⟨o, ho, hc, hd⟩, hm, hm2, hr, _⟩ R x R' hst
    exact ⟨⟨old, x.keep I _ he hm hIL hIo⟩, ⟨o, x.keep J o ho hm2 hJL hJo, hc, hd⟩, x.mem I _ he hm, x.mem J o ho hm2, x.rv R hr, hst⟩
  turn := by
    rintro i σ s W R ⟨⟨old, he⟩, hit, hm, hm2, hr, hsq⟩ hV'
    obtain ⟨ts, k, p, rfl⟩ := ht
    obtain ⟨a, items, kk, ea, e, rvs⟩ := hsq.open R hr
    cases ea
    rw [List.getElem?_mapIdx] at hV'
    obtain ⟨U, hU, rfl⟩ := Option.map_eq_some_iff.mp hV'
    obtain ⟨v, hv, rv⟩ := rvs.get hU
    refine wpAny_pyNext_enum_item he hit (PySem.IsL.isList e) (x := v) (by simpa using hv) hIJ fun h' ho hit' hT hsz hk => ⟨_, rfl, wpAny_letOwnedTupleGo_enum ho fun h2 he2 hs2 => ?_⟩
    have oI : ∀ o, s.heap.get? I = some o → ¬ isSeqObj o ∧ ∀ v, o.data ≠ .cell v := fun o h => by
      rw [he] at h; cases h; exact ⟨(fun ⟨_, _, q⟩ => nomatch q), (fun v q => nomatch q)⟩
    have oJ : ∀ o, s.heap.get? J = some o → ¬ isSeqObj o ∧ ∀ v, o.data ≠ .cell v := fun o h => by
      obtain ⟨o', ho', _, hd⟩ := hit
      rw [h] at ho'; cases ho'
      exact ⟨(fun ⟨_, _, q⟩ => absurd (hd.symm.trans q) nofun), (fun v q => absurd (hd.symm.trans q) nofun)⟩
    have kp : ∀ b o, ¬ (b = I ∨ b = J) → s.heap.get? b = some o → h2.get? b = some o := fun b o q e => hs2.extBut b o (fun z => q (.inl z)) (hk b o (fun z => q (.inl z)) (fun z => q (.inr z)) e)
    have ks : ∀ b o, s.heap.get? b = some o → σ.mem b = none → isSeqObj o → h2.get? b = some o ∧ σ.mem b = none := fun b o e m q => ⟨kp b o (fun z => by
      rcases z with rfl | rfl
      · exact (oI o e).1 q
      · exact (oJ o e).1 q) e, m⟩
    have R' : Rep X σ { s with heap := h2, toks := s.toks + 1 } := R.touch (W := fun b => b = I ∨ b = J) kp fun b q => by
      rcases q with rfl | rfl
      · exact ⟨hI1, hIL, hm, oI⟩
      · exact ⟨hJ1, hJL, hm2, oJ⟩
    have hTI : s.heap.objs.size ≠ I := fun q => absurd (Heap.lt_size he) (by rw [← q]; exact Nat.lt_irrefl _)
    have hIt2 : h2.IsListIter J l (i + 1) := by
      obtain ⟨o, a1, a2⟩ := hit'
      exact ⟨o, hs2.extBut J o (Ne.symm hIJ) a1, a2⟩
    refine ⟨h2, s.toks + 1, rfl, R', ?_, ⟨⟨v, ?_⟩, hIt2, hm, hm2, hr.mono ks, hsq⟩, kp⟩
    · exact .tup (items := [.int i s.toks, v]) (n := 0) (hs2.extBut _ _ hTI hT) R.top.2.2.2 (.cons (.int _ _) (.cons (rv.mono ks) .nil))
    · simpa using he2
  done := by
    rintro σ s R ⟨⟨old, he⟩, hit, hm, hm2, hr, hsq⟩
    obtain ⟨a, items, kk, ea, e, rvs⟩ := hsq.open R hr
    cases ea
    have oJ : ∀ o, s.heap.get? J = some o → ¬ isSeqObj o ∧ ∀ v, o.data ≠ .cell v := fun o h => by
      obtain ⟨o', ho', _, hd⟩ := hit
      rw [h] at ho'; cases ho'
      exact ⟨(fun ⟨_, _, q⟩ => absurd (hd.symm.trans q) nofun), (fun v q => absurd (hd.symm.trans q) nofun)⟩
    refine wpAny_pyNext_enum_end ok.handled he hit (PySem.IsL.isList e) (by simp [rvs.length]) fun h' hx => ⟨rfl, h', s.toks, rfl, touch_one R (fun b o q e => hx b o q e) hJ1 hJL hm2 oJ, fun b o q e => hx b o (fun z => q (.inr z)) e⟩
  self := fun i σ s ⟨⟨old, he⟩, _⟩ => wpAny_pyIter_enum he ⟨rfl, rfl⟩

theorem AI_enum (ok : X.Ok n) {tg e : Expr} {K : List Val → (St → Prop) → St → Prop} (ht : ∃ ts k p, tg = .Tuple ts k p) (N : BName X (Str.ofString "enumerate") (.type "enumerate"))
    (he : starEach [e] X.env = [(false, eval e X.env)]) (h : AE X e σ (fun V σ1 => ∃ vs, SeqOf σ1 V vs ∧ K (vs.mapIdx fun i v => Val.tup [.int i, v]) (fun σ' => SeqOf σ' V vs) σ1)) :
    AI X tg (.Call (.Name (Str.ofString "enumerate") p) [e] [] pos) σ K := fun s R => by
  refine call_type_run (K := fun Vs σ1 => ∃ V vs, Vs = [V] ∧ SeqOf σ1 V vs ∧ K (vs.mapIdx fun i v => Val.tup [.int i, v]) (fun σ' => SeqOf σ' V vs) σ1) ok N he (by rfl) (AEs_cons he (h.mono fun V σ1 ⟨vs, h1, h2⟩ => AEs_nil ⟨V, vs, rfl, h1, h2⟩)) R ?_
  rintro vs' Vs σ' s' rvs R' x' ⟨V, vs, rfl, hsq, hK⟩
  cases rvs with
  | cons rv r =>
    cases r
    obtain ⟨l, items, k, rfl, e, rvs⟩ := hsq.open R' rv
    refine call_enumerate_list (PySem.IsL.isList e) fun h' hen hit hsz hk => ?_
    refine wpAny_pyIter_enum hen ?_
    have g := R'.grow (t := s'.toks) hk
    have notlive : ∀ c, s'.heap.objs.size ≤ c → s'.heap.get? c = none := fun c hc => Heap.get?_none_of_le hc
    have fI := R'.fresh (notlive (s'.heap.objs.size + 1) (Nat.le_succ _))
    have tp := R'.top
    have hL : s'.heap.objs.size + 1 ≠ X.f.L := fun q => by
      obtain ⟨m, ⟨o, _, _, ho, _⟩, _⟩ := R'.env
      rw [← q, notlive _ (Nat.le_succ _)] at ho; cases ho
    have hO : s'.heap.objs.size + 1 ∉ X.f.own := fun q => by
      obtain ⟨m, _, _, hc, _⟩ := R'.env
      obtain ⟨_, v, o', ho', _⟩ := hc _ (.inl q)
      rw [notlive _ (Nat.le_succ _)] at ho'; cases ho'
    refine ⟨s'.heap.objs.size + 1, (fun b => b = s'.heap.objs.size + 1 ∨ b = s'.heap.objs.size), _, _, _, σ', rfl, fun X' eB eA ⟨n', ok'⟩ hd => It.enum ok' ht (l := l) (V := V) (vs := vs) (Nat.succ_ne_self _) (eB ▸ fI.2) (hd _ (.inl rfl)).1 (hd _ (.inl rfl)).2 (eB ▸ tp.1) (hd _ (.inr rfl)).1 (hd _ (.inr rfl)).2,
      ⟨⟨_, hen⟩, hit, fI.1, tp.2.2.2, g.2.rv R' rv, hsq⟩, g.1, x'.trans R' g.2, ?_, hsq, hK⟩
    intro b hb
    refine ⟨?_, ?_⟩
    · cases q : s.heap.get? b with
      | none => rfl
      | some o =>
        obtain ⟨o', e'⟩ := x'.live _ o q
        rcases hb with rfl | rfl
        · rw [notlive _ (Nat.le_succ _)] at e'; cases e'
        · rw [notlive _ (Nat.le_refl _)] at e'; cases e'
    · rcases hb with rfl | rfl
      · exact ⟨hL, hO, _, hen, (fun ⟨_, _, q⟩ => nomatch q), (fun v q => nomatch q)⟩
      · obtain ⟨o, ho, _, hd⟩ := hit
        exact ⟨tp.2.1, tp.2.2.1, o, ho, (fun ⟨_, _, q⟩ => absurd (hd.symm.trans q) nofun), (fun v q => absurd (hd.symm.trans q) nofun)⟩
end

end Mine
end
section
open PySem PySem.W PyProof.Rows PySem.Calls
namespace Mine

/-! the block of a comprehension: its names, its cells -/
def closL (cells : List (Str × Addr)) : List (Str × NameKind) → List (Str × Addr) → List (Str × Addr)
  | [], acc => acc
  | (x, k) :: r, acc => closL cells r (if k == .free then (x, (cells.lookup x).getD 0) :: acc else acc)

theorem closL_lookup {cells : List (Str × Addr)} : ∀ (names : List (Str × NameKind)) (acc : List (Str × Addr)), (∀ x ∈ names, x.2 = .free → (cells.lookup x.1).isSome = true) → (∀ x c, acc.lookup x = some c → cells.lookup x = some c) →
    ∀ x c, (closL cells names acc).lookup x = some c → cells.lookup x = some c
  | [], acc, _, ha, x, c, h => ha x c h
  | (y, k) :: r, acc, hf, ha, x, c, h => by
    refine closL_lookup r _ (fun z hz => hf z (.tail _ hz)) ?_ x c h
    intro z d hd
    split at hd
    · rename_i hk
      rw [List.lookup_cons] at hd
      cases hz : z == y with
      | true =>
        rw [hz] at hd
        have e : z = y := by simpa using hz
        subst e
        cases hd
        obtain ⟨c', hc'⟩ := Option.isSome_iff_exists.mp (hf (z, k) (.head _) (by simpa using hk))
        have hc'' : cells.lookup z = some c' := hc'
        rw [hc'']; rfl
      | false => rw [hz] at hd; exact ha z d hd
    · exact ha z d hd
theorem closL_some {cells : List (Str × Addr)} : ∀ (names : List (Str × NameKind)) (acc : List (Str × Addr)) (x : Str), (x, NameKind.free) ∈ names ∨ (acc.lookup x).isSome = true → ((closL cells names acc).lookup x).isSome = true
  | [], acc, x, h => by
    rcases h with h | h
    · cases h
    · exact h
  | (y, k) :: r, acc, x, h => by
    refine closL_some r _ x ?_
    rcases h with h | h
    · rcases List.mem_cons.mp h with e | h
      · cases e
        right
        rw [if_pos (by rfl), List.lookup_cons]; simp
      · exact .inl h
    · right
      split
      · rw [List.lookup_cons]
        cases x == y <;> simp [h]
      · exact h
theorem closL_mem {cells : List (Str × Addr)} : ∀ (names : List (Str × NameKind)) (acc : List (Str × Addr)), (∀ x ∈ names, x.2 = .free → (cells.lookup x.1).isSome = true) → (∀ x c, (x, c) ∈ acc → ∃ y, cells.lookup y = some c) →
    ∀ x c, (x, c) ∈ closL cells names acc → ∃ y, cells.lookup y = some c
  | [], acc, _, ha, x, c, h => ha x c h
  | (y, k) :: r, acc, hf, ha, x, c, h => by
    refine closL_mem r _ (fun z hz => hf z (.tail _ hz)) ?_ x c h
    intro z d hd
    split at hd
    · rename_i hk
      rcases List.mem_cons.mp hd with e | hd
      · obtain ⟨c', hc'⟩ := Option.isSome_iff_exists.mp (hf (y, k) (.head _) (by simpa using hk))
        have hc'' : cells.lookup y = some c' := hc'
        rw [hc''] at e
        cases e
        exact ⟨y, hc''⟩
      · exact ha z d hd
    · exact ha z d hd
theorem closureFor_eq {scope : Scope} {env : Env} (h : ∀ x ∈ scope.names, x.2 = .free → (env.cells.lookup x.1).isSome = true) : closureFor scope env = pure (closL env.cells scope.names []) := by
  have go : ∀ (names : List (Str × NameKind)) (acc : List (Str × Addr)), (∀ x ∈ names, x.2 = .free → (env.cells.lookup x.1).isSome = true) →
      (forIn names acc fun (x : Str × NameKind) (r : List (Str × Addr)) => (if (x.2 == NameKind.free) = true then do let c ← cellOf env x.1; pure (ForInStep.yield ((x.1, c) :: r)) else pure (ForInStep.yield r) : Sem _)) = pure (closL env.cells names acc) := by
    intro names
    induction names with
    | nil => intro acc _; rfl
    | cons y r ih =>
      obtain ⟨y, k⟩ := y
      intro acc hf
      rw [List.forIn_cons]
      by_cases hk : (k == NameKind.free) = true
      · have hk' : k = .free := by simpa using hk
        subst hk'
        obtain ⟨c, hc⟩ := Option.isSome_iff_exists.mp (hf (y, .free) (.head _) rfl)
        have hc : env.cells.lookup y = some c := hc
        have hcell : cellOf env y = pure c := by unfold cellOf; rw [hc]
        simp only [beq_self_eq_true, if_true, hcell, pure_bind]
        rw [ih _ fun z hz => hf z (.tail _ hz)]
        simp [closL, hc]
      · simp only [hk, if_false, pure_bind, Bool.false_eq_true]
        rw [ih _ fun z hz => hf z (.tail _ hz)]
        simp [closL, hk]
  have e := go scope.names [] h
  unfold closureFor
  show (forIn scope.names ([] : List (Str × Addr)) (fun (x : Str × NameKind) (r : List (Str × Addr)) => (if (x.2 == NameKind.free) = true then do let c ← cellOf env x.1; pure (ForInStep.yield ((x.1, c) :: r)) else pure (ForInStep.yield r) : Sem _)) >>= fun s => pure s) = _
  rw [e]
  rfl

theorem cellsFrom_acc : ∀ (names : List (Str × NameKind)) (n : Nat) (acc : List (Str × Addr)), cellsFrom n names acc = cellsFrom n names [] ++ acc
  | [], _, _ => rfl
  | (x, k) :: r, n, acc => by
    unfold cellsFrom
    split
    · rw [cellsFrom_acc r (n + 1) ((x, n) :: acc), cellsFrom_acc r (n + 1) [(x, n)], List.append_assoc]; rfl
    · exact cellsFrom_acc r n acc
theorem cellsFrom_mem : ∀ (names : List (Str × NameKind)) (n : Nat) (x : Str) (c : Addr), (x, c) ∈ cellsFrom n names [] → (x, NameKind.cell) ∈ names
  | [], _, _, _, h => by cases h
  | (y, k) :: r, n, x, c, h => by
    unfold cellsFrom at h
    split at h
    · rename_i hk
      rw [cellsFrom_acc] at h
      rcases List.mem_append.mp h with h | h
      · exact .tail _ (cellsFrom_mem r (n + 1) x c h)
      · have hk' : k = .cell := by simpa using hk
        cases List.mem_singleton.mp h
        rw [hk']; exact .head _
    · exact .tail _ (cellsFrom_mem r n x c h)

def compFm (X : Cx) (scope : Scope) (C : Addr) : Fm :=
  { L := C, cells := cellsFrom (C + 1) scope.names [] ++ closL X.f.cells scope.names [], own := (cellsFrom (C + 1) scope.names []).map (·.2), qual := X.f.qual, func := none, code := X.f.code, frame := X.f.frame }
def compCx (X : Cx) (scope : Scope) (C : Addr) : Cx := ⟨X.B, X.A, compFm X scope C, relabel scope X.env⟩
def St.comp (σ : St) (scope : Scope) : St := { mem := σ.mem, loc := fun x => if scope.names.lookup x = some .free then σ.loc x else none }

/-- a comprehension's block that may be entered here -/
structure CompOk (X : Cx) (scope : Scope) : Prop where
  kind : scope.kind = .function
  nodup : (scope.names.map (·.1)).Nodup
  free : ∀ x ∈ scope.names, x.2 = .free → (X.f.cells.lookup x.1).isSome = true ∧ (X.env.kindOf x.1 = some .cell ∨ X.env.kindOf x.1 = some .free)

theorem lookup_relabel {env : Env} (hk : env.scope.kind = .function) : ∀ {names : List (Str × NameKind)} {x : Str} {k : NameKind}, names.lookup x = some k →
    (names.map fun (n, k) => if (k == NameKind.free && env.scope.kind == .function && env.kindOf n == some .cell) then (n, NameKind.cell) else (n, k)).lookup x = some (if k = .free ∧ env.kindOf x = some .cell then .cell else k)
  | [], _, _, h => by simp at h
  | (n, j) :: r, x, k, h => by
    have ih := @lookup_relabel env hk r x k
    rw [List.map_cons]
    show List.lookup x ((if (j == NameKind.free && env.scope.kind == .function && env.kindOf n == some .cell) = true then (n, NameKind.cell) else (n, j)) :: _) = _
    cases hx : x == n with
    | true =>
      have e : x = n := by simpa using hx
      subst e
      simp only [List.lookup_cons, hx] at h
      cases h
      by_cases hc : (j == NameKind.free && env.scope.kind == .function && env.kindOf x == some .cell) = true
      · rw [if_pos hc]
        simp only [Bool.and_eq_true, beq_iff_eq] at hc
        simp [List.lookup_cons, hc.1.1, hc.2]
      · rw [if_neg hc]
        have : ¬ (j = .free ∧ env.kindOf x = some .cell) := fun q => hc (by simp [q.1, q.2, hk])
        simp [List.lookup_cons, this]
    | false =>
      simp only [List.lookup_cons, hx] at h
      split
      · simp only [List.lookup_cons, hx]; exact ih h
      · simp only [List.lookup_cons, hx]; exact ih h

section
variable {X : Cx} {σ : St} {n : Nat} {pos : Pos}

theorem lookup_nodup {α : Type} : ∀ {names : List (Str × α)}, (names.map (·.1)).Nodup → ∀ {x : Str} {k : α}, (x, k) ∈ names → names.lookup x = some k
  | [], _, _, _, hm => by cases hm
  | (y, j) :: r, h, x, k, hm => by
    rw [List.map_cons, List.nodup_cons] at h
    rw [List.lookup_cons]
    rcases List.mem_cons.mp hm with e | hm'
    · cases e; simp
    · have : (x == y) = false := by
        cases q : x == y with
        | false => rfl
        | true =>
          have e : x = y := by simpa using q
          subst e
          exact absurd (List.mem_map_of_mem (f := (·.1)) hm') h.1
      rw [this]
      exact lookup_nodup h.2 hm'

/-- the frame of the block is laid -/
theorem comp_enter (ok : X.Ok n) {scope : Scope} (co : CompOk X scope) {s : Shared} (R : Rep X σ s) {Q' : Env → Shared → Prop} {E' : Value → Shared → Prop}
    (hk : ∀ C h' , C = s.heap.objs.size → (∀ b o, s.heap.get? b = some o → h'.get? b = some o) → (compCx X scope C).Ok n → Rep (compCx X scope C) (σ.comp scope) { s with heap := h' } → (∀ b o, s.heap.get? b = some o → b ≠ C ∧ b ∉ (compCx X scope C).f.own) →
      ∀ cenv : Env, { cenv with scope := relabel scope X.env } = (compCx X scope C).env → cenv.locals = C → Q' cenv { s with heap := h' }) :
    wpAny X.M X.A (newFunctionEnv scope X.env.globals (closL X.f.cells scope.names []) [] X.env.qual none .none (some X.env)) Q' E' s := by
  simp only [newFunctionEnv, Option.isSome_some, if_true]
  refine wpAny_bind (wpAny_alloc ?_)
  refine wpAny_bind (wpAny_layCells _ (fun name kind cells => by cases hkc : kind == NameKind.cell <;> simp [hkc]) _ _ _ _ ?_)
  have okc := cellsFrom_ok scope.names (s.heap.push { cls := .type "dict", data := .dict #[] }) (s.heap.objs.size + 1) [] ⟨fun _ _ hm => (nomatch hm), List.Pairwise.nil⟩ (by rw [Heap.size_push]; exact Nat.le_refl _)
  rw [Heap.size_push] at okc
  rw [show ({ s with heap := s.heap.push { cls := .type "dict", data := .dict #[] } } : Shared).heap.objs.size = s.heap.objs.size + 1 from Heap.size_push ..]
  rw [List.forIn_nil]
  refine wpAny_bind (wpAny_pure (wpAny_pure ?_))
  have kp : ∀ b o, s.heap.get? b = some o → (pushCells (s.heap.push { cls := .type "dict", data := .dict #[] }) scope.names).get? b = some o := fun b o e => pushCells_keeps _ _ b o (Heap.get?_push_of_some _ e)
  have g := R.grow (t := s.toks) kp
  have notlive : ∀ c, s.heap.objs.size ≤ c → s.heap.get? c = none := fun c hc => Heap.get?_none_of_le hc
  have above : ∀ x c, (x, c) ∈ cellsFrom (s.heap.objs.size + 1) scope.names [] → s.heap.objs.size + 1 ≤ c := fun x c hm => (okc.empty x c hm).2
  have aboveO : ∀ c ∈ (compCx X scope s.heap.objs.size).f.own, s.heap.objs.size + 1 ≤ c := by
    intro c hc
    obtain ⟨⟨y, c'⟩, hm, rfl⟩ := List.mem_map.mp hc
    exact above y c' hm
  have hcl : ∀ x c, (closL X.f.cells scope.names []).lookup x = some c → X.f.cells.lookup x = some c := closL_lookup scope.names [] (fun x hx hf => (co.free x hx hf).1) (fun _ _ h => by simp at h)
  have capp : ∀ x c, (compCx X scope s.heap.objs.size).f.cells.lookup x = some c → (x, c) ∈ cellsFrom (s.heap.objs.size + 1) scope.names [] ∨ X.f.cells.lookup x = some c := by
    intro x c h
    have h' : (cellsFrom (s.heap.objs.size + 1) scope.names [] ++ closL X.f.cells scope.names []).lookup x = some c := h
    rw [List.lookup_append] at h'
    cases e : (cellsFrom (s.heap.objs.size + 1) scope.names []).lookup x with
    | some d => rw [e] at h'; cases h'; exact .inl (mem_of_lookup e)
    | none => rw [e] at h'; exact .inr (hcl x c (by simpa using h'))
  -- cells of the frame around lie below
  have below : ∀ x c, X.f.cells.lookup x = some c → c < s.heap.objs.size := fun x c h => by
    obtain ⟨m, _, _, hc, _⟩ := R.env
    obtain ⟨_, v, o, ho, _⟩ := hc c (.inr ⟨x, mem_of_lookup h⟩)
    exact Heap.lt_size ho
  have ok' : (compCx X scope s.heap.objs.size).Ok n := by
    refine ⟨ok.base, co.kind, ok.handled, ok.depth, ok.units, R.top.1, ?_, ?_⟩
    · intro c hc
      have := aboveO c hc
      exact ⟨(R.fresh (notlive c (Nat.le_of_succ_le this))).2, Nat.ne_of_gt this⟩
    · intro x y c hx hy
      rcases capp x c hx with h1 | h1 <;> rcases capp y c hy with h2 | h2
      · exact name_of_addr okc.apart h1 h2
      · exact absurd (below y c h2) (Nat.not_lt.mpr (Nat.le_of_succ_le (above x c h1)))
      · exact absurd (below x c h1) (Nat.not_lt.mpr (Nat.le_of_succ_le (above y c h2)))
      · exact ok.cellInj x y c h1 h2
  refine hk s.heap.objs.size _ rfl kp ok' ?_ ?_ _ ?_ rfl
  · refine ⟨g.1.keep, g.1.gens, g.1.os, g.1.mem, ?_⟩
    refine ⟨fun _ => none, (Heap.Ns.new s.heap (.type "dict")).keeps (pushCells_keeps _ _), R.top.2.2.2, ?_, ?_⟩
    · intro c hc
      have hnew : ∀ x, (x, c) ∈ cellsFrom (s.heap.objs.size + 1) scope.names [] → (σ.comp scope).mem c = none ∧ ∃ v, (pushCells (s.heap.push { cls := .type "dict", data := .dict #[] }) scope.names).IsCell c v := fun x hx =>
        ⟨(R.fresh (notlive c (Nat.le_of_succ_le (above x c hx)))).1, _, (okc.empty x c hx).1⟩
      rcases hc with hc | ⟨x, hx⟩
      · obtain ⟨⟨y, c'⟩, hm, rfl⟩ := List.mem_map.mp hc
        exact hnew y hm
      · rcases List.mem_append.mp (show (x, c) ∈ cellsFrom (s.heap.objs.size + 1) scope.names [] ++ closL X.f.cells scope.names [] from hx) with h1 | h1
        · exact hnew x h1
        · obtain ⟨y, hy⟩ := closL_mem scope.names [] (fun x hx hf => (co.free x hx hf).1) (fun _ _ h => by cases h) x c h1
          obtain ⟨m, _, _, hcs, _⟩ := R.env
          obtain ⟨q1, v, o, ho, hd⟩ := hcs c (.inr ⟨y, mem_of_lookup hy⟩)
          exact ⟨q1, v, o, kp c o ho, hd⟩
    · intro x V hx
      have hx' : (if scope.names.lookup x = some .free then σ.loc x else none) = some V := hx
      by_cases hf : scope.names.lookup x = some .free
      · rw [if_pos hf] at hx'
        obtain ⟨m, _, _, _, hl⟩ := id R.env
        obtain ⟨hd, v, rv, hh⟩ := hl x V hx'
        have hmf : (x, NameKind.free) ∈ scope.names := mem_of_lookup hf
        have fr := co.free (x, .free) hmf rfl
        refine ⟨hd, v, g.2.rv R rv, .inr ?_⟩
        rcases hh with ⟨hk1, _⟩ | ⟨c, hc, hv, hm, hkk⟩
        · exfalso
          rcases fr.2 with q | q
          · have q' : X.env.kindOf x = some .cell := q
            rw [hk1] at q'; cases q'
          · have q' : X.env.kindOf x = some .free := q
            rw [hk1] at q'; cases q'
        · refine ⟨c, ?_, ?_, hm, ?_⟩
          · show (cellsFrom (s.heap.objs.size + 1) scope.names [] ++ closL X.f.cells scope.names []).lookup x = some c
            rw [List.lookup_append]
            have e1 : (cellsFrom (s.heap.objs.size + 1) scope.names []).lookup x = none := by
              cases q : (cellsFrom (s.heap.objs.size + 1) scope.names []).lookup x with
              | none => rfl
              | some d =>
                have := lookup_nodup co.nodup (cellsFrom_mem _ _ _ _ (mem_of_lookup q))
                rw [hf] at this; cases this
            rw [e1]
            obtain ⟨d, hd'⟩ := Option.isSome_iff_exists.mp (closL_some (cells := X.f.cells) scope.names [] x (.inl hmf))
            have := hcl x d hd'
            rw [hc] at this; cases this
            simpa using hd'
          · obtain ⟨o, ho, hdt⟩ := hv
            exact ⟨o, kp c o ho, hdt⟩
          · have e := lookup_relabel (env := X.env) ok.kind hf
            have e' : (compCx X scope s.heap.objs.size).env.kindOf x = some (if NameKind.free = .free ∧ X.env.kindOf x = some .cell then .cell else .free) := e
            rcases hkk with q | ⟨q, q2⟩
            · left; rw [e', if_pos ⟨rfl, q⟩]
            · right
              refine ⟨?_, q2⟩
              rw [e', if_neg (fun z => by rw [q] at z; cases z.2)]
      · rw [if_neg hf] at hx'; cases hx'
  · intro b o e
    have := Heap.lt_size e
    exact ⟨Nat.ne_of_lt this, fun hm => absurd (aboveO b hm) (Nat.not_le.mpr (Nat.lt_succ_of_lt this))⟩
  · simp only [compCx, compFm, Cx.env, Fm.env]
    rw [cellsFrom_acc]
end

end Mine
end
section
open PySem PySem.W PyProof.Rows PySem.Calls
namespace Mine

def ATs (X : Cx) : List Expr → St → (Bool → St → Prop) → Prop
  | [], σ, Q => Q true σ
  | c :: r, σ, Q => AT X c σ (fun b σ1 => (b = true → ATs X r σ1 Q) ∧ (b = false → Q false σ1))

abbrev testsT (ifs : List Expr) (env : Env) : Sem Bool := forIn ifs true fun c r => if r = true then do let ok ← isTrue c env (eval c env); pure (ForInStep.yield ok) else pure (ForInStep.yield r)

/-- the turns of a comprehension's clause -/
def CLoop (X : Cx) (tg : Expr) (ifs : List Expr) (stay : St → Prop) (inner : St → (St → Prop) → Prop) : List Val → St → (St → Prop) → Prop
  | [], σ, K => K σ
  | V :: r, σ, K => AG X tg V σ (fun σ1 => ATs X ifs σ1 (fun b σ2 => (b = true → inner σ2 (fun σ3 => stay σ3 ∧ CLoop X tg ifs stay inner r σ3 K)) ∧ (b = false → stay σ2 ∧ CLoop X tg ifs stay inner r σ2 K)))

def emit (X : Cx) (D : Addr) (elt : Expr) (σ : St) (K : St → Prop) : Prop :=
  AE X elt σ (fun V σ' => ∃ vs, σ'.mem D = some (.list vs) ∧ vs.length < 16777216 ∧ K (σ'.put D (.list (vs ++ [V]))))

def turnT (ip : Pos) (tg : Expr) (ifs : List Expr) (inner : Sem Unit) (it : Value) (c : Code) (env : Env) : Sem Fin := do
  standAt ip
  match ← pyNext it with
  | none => pure (.done .next)
  | some v =>
    letOwnedTupleGo tg it v
    assign tg env v
    let ok ← testsT ifs env
    if ok then inner
    again c

structure ExtW (X : Cx) (W : Addr → Prop) (σ : St) (s : Shared) (σ' : St) (s' : Shared) : Prop where
  keep : ∀ b o, ¬ W b → s.heap.get? b = some o → σ.mem b = none → b ≠ X.f.L → b ∉ X.f.own → s'.heap.get? b = some o
  mem : ∀ b o, ¬ W b → s.heap.get? b = some o → σ.mem b = none → σ'.mem b = none
  live : ∀ b o, ¬ W b → s.heap.get? b = some o → ∃ o', s'.heap.get? b = some o'

section
variable {X : Cx} {σ σ' σ'' : St} {n : Nat} {pos : Pos} {s s' s'' : Shared} {W : Addr → Prop}

theorem ExtW.refl : ExtW X W σ s σ s := ⟨fun _ _ _ e _ _ _ => e, fun _ _ _ _ e => e, fun _ o _ e => ⟨o, e⟩⟩
theorem ExtW.step (x : ExtW X W σ s σ' s') (y : Ext X σ' s' σ'' s'') : ExtW X W σ s σ'' s'' :=
  ⟨fun b o w e m hL ho => y.keep b o (x.keep b o w e m hL ho) (x.mem b o w e m) hL ho, fun b o w e m => let ⟨o', e'⟩ := x.live b o w e; y.mem b o' e' (x.mem b o w e m), fun b o w e => let ⟨o', e'⟩ := x.live b o w e; y.live b o' e'⟩
theorem ExtW.walk (x : ExtW X W σ s σ' s') {h' : Heap} {tk : Nat} (hk : ∀ b o, ¬ W b → s'.heap.get? b = some o → h'.get? b = some o) : ExtW X W σ s σ' { s' with heap := h', toks := tk } :=
  ⟨fun b o w e m hL ho => hk b o w (x.keep b o w e m hL ho), x.mem, fun b o w e => let ⟨o', e'⟩ := x.live b o w e; ⟨o', hk b o' w e'⟩⟩

theorem ATs_run : ∀ {ifs : List Expr} {σ : St} {s : Shared} {Q : Bool → St → Prop}, ATs X ifs σ Q → Rep X σ s → Ta X (eqR (α := Bool)) (testsT ifs X.env) σ s Q
  | [], σ, s, Q, h, R => wpAny_pure ⟨true, σ, rfl, R, .refl, h⟩
  | c :: r, σ, s, Q, h, R => by
    unfold testsT
    rw [List.forIn_cons]
    simp only [if_true]
    refine wpAny_bind (wpAny_bind (wpAny_mono (h s R) ?_ fun _ _ e => e))
    rintro b s1 ⟨_, σ1, rfl, R1, x1, q⟩
    refine wpAny_pure ?_
    cases b with
    | true => exact (ATs_run (q.1 rfl) R1).then R1 x1
    | false =>
      have e : ∀ (l : List Expr), (forIn l false fun c r => if r = true then do let ok ← isTrue c X.env (eval c X.env); pure (ForInStep.yield ok) else pure (ForInStep.yield r) : Sem Bool) = pure false := by
        intro l
        induction l with
        | nil => rfl
        | cons a l ih => rw [List.forIn_cons]; simp only [Bool.false_eq_true, if_false, pure_bind]; exact ih
      show wpAny _ _ (forIn r false fun c r => if r = true then do let ok ← isTrue c X.env (eval c X.env); pure (ForInStep.yield ok) else pure (ForInStep.yield r) : Sem Bool) _ _ s1
      rw [e]
      exact wpAny_pure ⟨false, σ1, rfl, R1, x1, q.2 rfl⟩
end

section
variable {X : Cx} {σ σ' σ'' : St} {n : Nat} {pos : Pos} {s s' s'' : Shared} {W : Addr → Prop}

theorem CLoop_run {tg : Expr} {ifs : List Expr} {stay : St → Prop} {inner : St → (St → Prop) → Prop} {I : Addr} {S : Nat → St → Heap → Prop} {items : List Val} {c : Code} {ip : Pos} {t : Sem Unit} {K : St → Prop}
    (it : It X tg I W S items stay) (hq : c.quiet = true) (hA : X.A.under c = X.A) (hc : X.M.den c = (turnT ip tg ifs t (.ref I) c X.env).onRaise (fun x => do noteFrame x X.env; theTreesLotGoes x))
    (hin : ∀ σ s K, Rep X σ s → inner σ K → wpAny X.M X.A t (fun _ s' => ∃ σ', Rep X σ' s' ∧ Ext X σ s σ' s' ∧ K σ') (fun _ _ => False) s)
    (R : Rep X σ s) (hS : S 0 σ s.heap) (h : CLoop X tg ifs stay inner items σ K) :
    codeAny X.M X.A c (fun r s' => r = .ok .next ∧ ∃ σ', Rep X σ' s' ∧ ExtW X W σ s σ' s' ∧ K σ') s := by
  refine codeAny_loop hq (fun k s' => ∃ i σ', i ≤ items.length ∧ k = items.length + 1 - i ∧ Rep X σ' s' ∧ S i σ' s'.heap ∧ ExtW X W σ s σ' s' ∧ CLoop X tg ifs stay inner (items.drop i) σ' K) ?_ (items.length + 1)
    ⟨0, σ, Nat.zero_le _, rfl, R, hS, .refl, by simpa using h⟩
  rintro k s' ⟨i, σ', hi, rfl, R', hS', x', hF'⟩
  rw [hA, hc]
  refine wpAny_noted ?_
  refine wpAny_mono (E := fun _ _ => False) (Q := fun fin s' => match fin with
    | .done f => (.ok f : Result) = .ok .next ∧ ∃ σ', Rep X σ' s' ∧ ExtW X W σ s σ' s' ∧ K σ'
    | .again c' => c' = c ∧ ∃ m, m < (items.length + 1 - i) ∧ ∃ i σ', i ≤ items.length ∧ m = items.length + 1 - i ∧ Rep X σ' s' ∧ S i σ' s'.heap ∧ ExtW X W σ s σ' s' ∧ CLoop X tg ifs stay inner (items.drop i) σ' K) ?_ (fun _ _ q => q) (fun _ _ e => e.elim)
  unfold turnT
  refine wpAny_bind (wpAny_standAt (wpAny_bind ?_))
  by_cases hlt : i < items.length
  · have hV : items[i]? = some items[i] := List.getElem?_eq_getElem hlt
    rw [drop_cons_of_get hlt] at hF'
    refine wpAny_mono (it.turn i σ' s' _ R' hS' hV) ?_ fun _ _ e => e.elim
    rintro r s3 ⟨v, rfl, h3⟩
    refine wpAny_bind (wpAny_mono h3 ?_ fun _ _ e => e.elim)
    rintro _ s4 ⟨h', tk, rfl, R4, rv, hS4, hk4⟩
    have x4 := x'.walk (tk := tk) hk4
    refine wpAny_bind (wpAny_mono (hF' _ v R4 rv) ?_ fun _ _ e => e.elim)
    rintro _ s5 ⟨_, σ5, _, R5, x5, hb⟩
    refine wpAny_bind (wpAny_mono (ATs_run hb R5) ?_ fun _ _ e => e.elim)
    rintro b s6 ⟨_, σ6, rfl, R6, x6, hk⟩
    have x46 := x5.trans R5 x6
    cases b with
    | true =>
      simp only [if_true]
      refine wpAny_bind (wpAny_mono (hin _ _ _ R6 (hk.1 rfl)) ?_ fun _ _ e => e.elim)
      rintro _ s7 ⟨σ7, R7, x7, hs7, hl7⟩
      have x47 := x46.trans R6 x7
      exact wpAny_pure ⟨rfl, _, by omega, i + 1, σ7, hlt, rfl, R7, it.frame _ _ _ _ _ hS4 R4 x47 R7 hs7, x4.step x47, hl7⟩
    | false =>
      simp only [Bool.false_eq_true, if_false]
      have hk' := hk.2 rfl
      exact wpAny_pure ⟨rfl, _, by omega, i + 1, σ6, hlt, rfl, R6, it.frame _ _ _ _ _ hS4 R4 x46 R6 hk'.1, x4.step x46, hk'.2⟩
  · have hie : i = items.length := by omega
    subst hie
    rw [List.drop_length] at hF'
    refine wpAny_mono (it.done σ' s' R' hS') ?_ fun _ _ e => e.elim
    rintro r s3 ⟨rfl, h', tk, rfl, R3, hk3⟩
    exact wpAny_pure ⟨rfl, σ', R3, x'.walk hk3, hF'⟩

/-- the element comes behind the others -/
theorem emit_run {D : Addr} {elt : Expr} {K : St → Prop} (R : Rep X σ s) (h : emit X D elt σ K) :
    wpAny X.M X.A (do let _ ← call (.builtin "list.append") [.ref D, ← eval elt X.env]) (fun _ s' => ∃ σ', Rep X σ' s' ∧ Ext X σ s σ' s' ∧ K σ') (fun _ _ => False) s := by
  refine wpAny_bind (wpAny_mono (h s R) ?_ fun _ _ e => e.elim)
  rintro v s2 ⟨V, σ2, rv, R2, x2, vs, hm2, hl, q⟩
  obtain ⟨items, k, e2, rvs⟩ := R2.isL hm2
  refine wpAny_bind (wpAny_list_append_plain (hsz := sz (by simp [rvs.length]; omega)) (l := D) (items := items.toArray) ⟨k, e2⟩ fun h' hpl hs' => wpAny_pure ?_)
  obtain ⟨k', el⟩ := hpl
  rw [show items.toArray.push v = (items ++ [v]).toArray from by simp] at el
  have kp : ∀ b o, b ≠ D → s2.heap.get? b = some o → h'.get? b = some o := fun b o q e => hs'.extBut b o q e
  have pm : ∀ b, σ2.mem b = none → b ≠ D := fun b m q => by rw [q, hm2] at m; cases m
  have g := R2.upd (t := s2.toks) (bx' := .list (vs ++ [V])) hm2 kp ⟨items ++ [v], _, el, (rvs.snoc rv).mono fun b o e m _ => ⟨kp b o (pm b m) e, by rw [St.put_mem, if_neg (pm b m)]; exact m⟩⟩
  exact ⟨_, g.1, x2.trans R2 g.2, q⟩
end

section
variable {X : Cx} {σ : St} {n : Nat} {pos : Pos}

/-- what the block of a comprehension leaves -/
def compDone (D : Addr) (σ2 : St) (Q : Val → St → Prop) (σ5 : St) : Prop :=
  (∃ vs, σ5.mem D = some (.list vs) ∧ Made (σ2.back σ5) vs Q) ∨ (∃ σ6 : St, (∀ a bx, σ6.mem a = some bx → σ5.mem a = some bx) ∧ σ6.loc = σ2.loc ∧ Q (.ref D) σ6)

theorem comp_leave {scope : Scope} {C D : Addr} {σ2 σ5 : St} {s s2 s5 : Shared} {h' : Heap} {W : Addr → Prop} {Q : Val → St → Prop} {h4 : Heap} {tk : Nat} (R2 : Rep X σ2 s2) (x2 : Ext X σ s σ2 s2) (hD : σ2.mem D = none) (hDn : s2.heap.get? D = none)
    (hnew : ∀ b o, s2.heap.get? b = some o → b ≠ C ∧ b ∉ (compCx X scope C).f.own) (kp4 : ∀ b o, s2.heap.get? b = some o → h4.get? b = some o)
    (hW : ∀ b, W b → s.heap.get? b = none ∧ b ≠ X.f.L ∧ b ∉ X.f.own ∧ ∃ o, s2.heap.get? b = some o ∧ ¬ isSeqObj o ∧ ∀ v, o.data ≠ .cell v)
    (R5 : Rep (compCx X scope C) σ5 s5) (x5 : ExtW (compCx X scope C) W ((σ2.put D (.list [])).comp scope) { s2 with heap := h4, toks := tk } σ5 s5)
    (hs : Heap.SameBut C s5.heap h') (hq : compDone D σ2 Q σ5) :
    ∃ V σ', RV h' σ'.mem (.ref D) V ∧ Rep X σ' { s5 with heap := h' } ∧ Ext X σ s σ' { s5 with heap := h' } ∧ σ'.mem C = none ∧ Q V σ' := by
  have CL : (compCx X scope C).f.L = C := rfl
  have nD : ∀ b o, s2.heap.get? b = some o → b ≠ D := fun b o e q => by rw [q, hDn] at e; cases e
  have m4 : ∀ b o, s2.heap.get? b = some o → σ2.mem b = none → ((σ2.put D (.list [])).comp scope).mem b = none := fun b o e m => by
    show (if b = D then _ else σ2.mem b) = none
    rw [if_neg (nD b o e)]; exact m
  have seqW : ∀ b o, s2.heap.get? b = some o → isSeqObj o → ¬ W b := fun b o e q w => by
    obtain ⟨_, _, _, o', e', nq, _⟩ := hW b w
    rw [e] at e'; cases e'; exact nq q
  obtain ⟨m, ⟨oL, es, ep, hL, rest⟩, qL, qc, ql⟩ := id R2.env
  have wL : ¬ W X.f.L := fun w => (hW _ w).2.1 rfl
  have go : ∀ σ6 : St, (∀ a bx, σ6.mem a = some bx → σ5.mem a = some bx) → σ6.loc = σ2.loc →
      Rep X σ6 { s5 with heap := h' } ∧ Ext X σ s σ6 { s5 with heap := h' } ∧ (∀ b o, s5.heap.get? b = some o → σ5.mem b = none → isSeqObj o → h'.get? b = some o ∧ σ6.mem b = none) ∧ σ6.mem C = none := by
    intro σ6 hm6 hl6
    have nn : ∀ b, σ5.mem b = none → σ6.mem b = none := fun b m => by
      cases e : σ6.mem b with
      | none => rfl
      | some bx => rw [hm6 b bx e] at m; cases m
    have nk : ∀ b ob, ¬ W b → s2.heap.get? b = some ob → σ2.mem b = none → h'.get? b = some ob ∧ σ6.mem b = none := fun b ob w e m => by
      have nb := hnew b ob e
      exact ⟨hs.extBut b ob nb.1 (x5.keep b ob w (kp4 b ob e) (m4 b ob e m) nb.1 nb.2), nn b (x5.mem b ob w (kp4 b ob e) (m4 b ob e m))⟩
    have k5 : ∀ b o, s5.heap.get? b = some o → σ5.mem b = none → isSeqObj o → h'.get? b = some o ∧ σ6.mem b = none := fun b o e m q =>
      ⟨hs.extBut b o (R5.locals_ne e (seq_no_dict q)) e, nn b m⟩
    refine ⟨?_, ?_, k5, nn C (let ⟨_, _, q, _⟩ := R5.env; q)⟩
    · refine ⟨fun b o e => ?_, R5.gens, R5.os, fun a bx e => ?_, ?_⟩
      · have e2 := R2.keep b o e
        exact hs.extBut b o (hnew b o e2).1 (R5.keep b o e)
      · have e' := hm6 a bx e
        have q := R5.mem a bx e'
        refine ⟨q.1, q.2.mono k5 fun o eo => hs.extBut a o (fun z => ?_) eo⟩
        obtain ⟨_, _, qC, _⟩ := R5.env
        rw [CL] at qC
        rw [z, qC] at e'; cases e'
      · have cw : ∀ c v, s2.heap.IsCell c v → ¬ W c := fun c v ⟨oc, e, d⟩ w => by
          obtain ⟨_, _, _, o', e', _, nq⟩ := hW c w
          rw [e] at e'; cases e'; exact nq _ d
        exact R2.env.mono (fun b ob e m q => nk b ob (seqW b ob e q) e m) (fun ob e => (nk _ ob wL e qL).1) (fun c v hc m => by
          have w := cw c v hc
          obtain ⟨ob, e, d⟩ := hc
          exact ⟨⟨ob, (nk c ob w e m).1, d⟩, (nk c ob w e m).2⟩) (nk _ _ wL hL qL).2 fun x V e => by rw [← hl6]; exact e
    · refine ⟨fun b ob e m hb ho => ?_, fun b ob e m => ?_, fun b ob e => ?_⟩
      · have w : ¬ W b := fun w => by rw [(hW b w).1] at e; cases e
        exact (nk b ob w (x2.keep b ob e m hb ho) (x2.mem b ob e m)).1
      · have w : ¬ W b := fun w => by rw [(hW b w).1] at e; cases e
        obtain ⟨o', e'⟩ := x2.live b ob e
        exact (nk b o' w e' (x2.mem b ob e m)).2
      · have w : ¬ W b := fun w => by rw [(hW b w).1] at e; cases e
        obtain ⟨o', e'⟩ := x2.live b ob e
        obtain ⟨o'', e''⟩ := x5.live b o' w (kp4 b o' e')
        exact ⟨o'', hs.extBut b o'' (hnew b o' e').1 e''⟩
  have hb : ∀ a bx, (σ2.back σ5).mem a = some bx → σ5.mem a = some bx := fun a bx e => by
    have : (if (σ2.mem a).isSome then σ5.mem a else none) = some bx := e
    split at this
    · exact this
    · cases this
  rcases hq with ⟨vs, hv, M⟩ | ⟨σ6, hm6, hl6, hq6⟩
  rotate_left
  · obtain ⟨r, x, k5, qC⟩ := go σ6 hm6 hl6
    exact ⟨_, _, .ref D, r, x, qC, hq6⟩
  obtain ⟨items, k, el, rvs⟩ := R5.isL hv
  have mD : (σ2.back σ5).mem D = none := by
    show (if (σ2.mem D).isSome then _ else none) = none
    rw [hD]; rfl
  have elD : IsL h' D items.toArray k := hs.extBut D _ (R5.locals_ne el (seq_no_dict ⟨_, _, rfl⟩)) el
  cases M with
  | frozen h =>
    obtain ⟨r, x, k5, qC⟩ := go _ hb rfl
    exact ⟨_, _, .lst elD mD (rvs.mono k5), r, x, qC, h⟩
  | tracked h =>
    obtain ⟨r, x, k5, qC⟩ := go ((σ2.back σ5).put D (.list vs)) (fun a bx e => by
      rw [St.put_mem] at e
      split at e
      · rename_i q; subst q; cases e; exact hv
      · exact hb a bx e) rfl
    exact ⟨_, _, .ref D, r, x, qC, h D mD⟩

/-- the walk of the block, one clause -/
theorem comp_block {scope : Scope} {tg iter elt : Expr} {ifs : List Expr} {cpos : Pos} {s s2 : Shared} {it : Value} {Q : Val → St → Prop} (ok : X.Ok n) (co : CompOk X scope) {RR : Value → Addr → Result → Shared → Prop}
    (h : Walking X tg σ s (fun items stay σ2 => ∀ C D, σ2.mem D = none → (compCx X scope C).Ok n → stay ((σ2.put D (.list [])).comp scope) ∧ CLoop (compCx X scope C) tg ifs stay (emit (compCx X scope C) D elt) items ((σ2.put D (.list [])).comp scope) (compDone D σ2 Q)) it s2)
    (hRR : ∀ D C s5, (∃ m, s5.heap.Ns C m) → (X.B.h₁.get? C = none ∧ C ≠ X.f.L ∧ C ∉ X.f.own ∧ s.heap.get? C = none) →
      (∀ h', Heap.SameBut C s5.heap h' → ∃ V σ', RV h' σ'.mem (.ref D) V ∧ Rep X σ' { s5 with heap := h' } ∧ Ext X σ s σ' { s5 with heap := h' } ∧ σ'.mem C = none ∧ Q V σ') → RR (.ref D) C (.ok .next) s5) :
    wpAny X.M X.A (newList []) (fun acc s₃ => wpAny X.M X.A (newFunctionEnv scope X.env.globals (closL X.f.cells scope.names []) [] X.env.qual none .none (some X.env)) (fun cenv s₄ =>
      codeAny X.M X.A (.compStart (.ListComp elt [⟨tg, iter, ifs, 0⟩] scope cpos) 0 it acc { cenv with scope := relabel scope X.env }) (RR acc cenv.locals) s₄) (fun _ _ => False) s₃) (fun _ _ => False) s2 := by
  obtain ⟨I, W, S, items, stay, σ2, rfl, hit, hS, R2, x2, hW, hst, hK⟩ := h
  refine wpAny_newObj_type ?_
  have fD := R2.fresh (heap_top_none s2.heap)
  have kp3 : ∀ b o, s2.heap.get? b = some o → (s2.heap.push { cls := .type "list", dict := none, data := .seq ([] : List Value).toArray }).get? b = some o := fun b o e => Heap.get?_push_of_some _ e
  have g := R2.new (t := s2.toks) (bx := .list []) (heap_top_none s2.heap) kp3 ⟨[], _, Heap.get?_push_size _ rfl, .nil⟩
  refine comp_enter ok co g.1 ?_
  intro C h4 eC kp4 okc R4 hnew cenv ecenv eL
  have hit' := hit (compCx X scope C) rfl rfl ⟨n, okc⟩ fun b w => by
    obtain ⟨_, _, _, o, e, _⟩ := hW b w
    exact hnew b o (kp3 b o e)
  rw [ecenv, eL]
  have kp : ∀ b o, s2.heap.get? b = some o → h4.get? b = some o := fun b o e => kp4 b o (kp3 b o e)
  obtain ⟨hst4, hK4⟩ := hK C s2.heap.objs.size fD.1 okc
  have g4 := g.1.grow (t := s2.toks) kp4
  have lc : ∀ x V, ((σ2.put s2.heap.objs.size (.list [])).comp scope).loc x = some V → (σ2.put s2.heap.objs.size (.list [])).loc x = some V := fun x V e => by
    have e' : (if scope.names.lookup x = some .free then (σ2.put s2.heap.objs.size (.list [])).loc x else none) = some V := e
    split at e'
    · exact e'
    · cases e'
  have R4' : Rep X ((σ2.put s2.heap.objs.size (.list [])).comp scope) { s2 with heap := h4, toks := s2.toks } := g4.1.less (fun _ _ e => e) lc
  have x4 : Ext X σ2 s2 ((σ2.put s2.heap.objs.size (.list [])).comp scope) { s2 with heap := h4, toks := s2.toks } := (g.2.trans g.1 g4.2).less fun _ _ e => e
  have hS4 : S 0 ((σ2.put s2.heap.objs.size (.list [])).comp scope) h4 := (hit X rfl rfl ⟨n, ok⟩ fun b w => ⟨(hW b w).2.1, (hW b w).2.2.1⟩).frame 0 σ2 s2 _ _ hS R2 x4 R4' hst4
  have loop : codeAny X.M X.A (.compLoop (.ListComp elt [⟨tg, iter, ifs, 0⟩] scope cpos) 0 (.ref I) (.ref s2.heap.objs.size) (compCx X scope C).env) (RR (.ref s2.heap.objs.size) C) { s2 with heap := h4, toks := s2.toks } := by
    refine codeAny_mono (CLoop_run (X := compCx X scope C) (ip := iter.pos) hit' rfl rfl rfl (fun σ s K R h => emit_run R h) R4 hS4 hK4) ?_
    rintro r s5 ⟨rfl, σ5, R5, x5, hq⟩
    have cn : s2.heap.get? C = none := by
      cases q : s2.heap.get? C with
      | none => rfl
      | some o => exact absurd rfl (hnew C o (kp3 C o q)).1
    refine hRR _ C s5 (let ⟨m, q, _⟩ := R5.env; ⟨m, q⟩) ⟨(R2.fresh cn).2, fun q => ?_, fun q => ?_, ?_⟩ fun h' hs' => ?_
    · obtain ⟨m, ⟨o, _, _, ho, _⟩, _⟩ := R2.env
      rw [← q, cn] at ho; cases ho
    · obtain ⟨m, _, _, hc, _⟩ := R2.env
      obtain ⟨_, v, o', ho', _⟩ := hc _ (.inl q)
      rw [cn] at ho'; cases ho'
    · cases q : s.heap.get? C with
      | none => rfl
      | some o =>
        obtain ⟨o', e'⟩ := x2.live C o q
        rw [cn] at e'; cases e'
    · exact comp_leave R2 x2 fD.1 (heap_top_none s2.heap) (fun b o e => hnew b o (kp3 b o e)) kp hW R5 x5 hs' hq
  exact codeAny_compStart_list loop (wpAny_mono (hit'.self 0 _ _ hS4) (fun v s' ⟨e1, e2⟩ => by subst e1; subst e2; exact loop) fun _ _ e => e.elim)

/-- what is asked of a comprehension of one clause -/
def CompK (X : Cx) (n : Nat) (tg : Expr) (ifs : List Expr) (elt : Expr) (scope : Scope) (Q : Val → St → Prop) (items : List Val) (stay : St → Prop) (σ2 : St) : Prop :=
  ∀ C D, σ2.mem D = none → (compCx X scope C).Ok n → stay ((σ2.put D (.list [])).comp scope) ∧ CLoop (compCx X scope C) tg ifs stay (emit (compCx X scope C) D elt) items ((σ2.put D (.list [])).comp scope) (compDone D σ2 Q)

theorem AE_comp (ok : X.Ok n) {scope : Scope} (co : CompOk X scope) {tg iter elt : Expr} {ifs : List Expr} {cpos : Pos} {Q : Val → St → Prop} (hs : ∀ x, foldedSetIterable iter X.env x = pure x)
    (h : AI X tg iter σ (CompK X n tg ifs elt scope Q)) : AE X (.ListComp elt [⟨tg, iter, ifs, 0⟩] scope cpos) σ Q := fun s R => by
  show wpAny _ _ (eval _ _) _ _ s
  rw [eval_ListComp]
  refine wpAny_comprehension_free (use := none) rfl hs (closureFor_eq fun x hx hf => (co.free x hx hf).1) co.kind (fun y hy hl => by rw [← hl]; exact lookup_nodup co.nodup hy) (wpAny_mono (h s R) (fun xv s₁ h₁ => wpAny_mono h₁ (fun it s₂ h₂ => ?_) fun _ _ e => e) fun _ _ e => e)
  refine comp_block (RR := fun acc C => compPost X.M X.A _ none _ acc C) ok co h₂ ?_
  intro D C s5 ns cf hh
  obtain ⟨m, hn⟩ := ns
  refine ⟨m, hn, fun h' hs' => ?_⟩
  obtain ⟨V, σ', rv, R', x', _, q⟩ := hh h' hs'
  exact ⟨V, σ', rv, R', x', q⟩

theorem AX_assign_comp (ok : X.Ok n) {scope : Scope} (co : CompOk X scope) {tg iter elt : Expr} {ifs : List Expr} {cpos : Pos} {y : Str} {py : Pos} {Q : Fl → St → Prop} (hs : ∀ x, foldedSetIterable iter X.env x = pure x)
    (hsw : swapsWith (.ListComp elt [⟨tg, iter, ifs, 0⟩] scope cpos) (some (.Name y py)) pos.line X.env = pure true) (hw : Writes X y)
    (h : AI X tg iter σ (CompK X n tg ifs elt scope (fun V σ' => Q .next (σ'.set y V)))) : AX X (.Assign [.Name y py] (.ListComp elt [⟨tg, iter, ifs, 0⟩] scope cpos) pos) σ Q := fun s R => by
  show wpAny _ _ (exec _ _) _ _ s
  rw [exec_Assign_Name_used _ _ _ _ hsw]
  refine wpAny_bind (wpAny_standAt (wpAny_bind ?_))
  show wpAny _ _ (do let _ ← comprehension (.ListComp elt [⟨tg, iter, ifs, 0⟩] scope cpos) scope X.env _ (newList []) false (eval iter X.env) (some (assign (.Name y py) X.env))) _ _ s
  refine wpAny_bind (wpAny_mono (wpAny_comprehension_free (use := some (assign (.Name y py) X.env)) (Q := fun _ s' => ∃ σ', Rep X σ' s' ∧ Ext X σ s σ' s' ∧ Q .next σ') rfl hs (closureFor_eq fun x hx hf => (co.free x hx hf).1) co.kind
    (fun y hy hl => by rw [← hl]; exact lookup_nodup co.nodup hy) (wpAny_mono (h s R) (fun xv s₁ h₁ => wpAny_mono h₁ (fun it s₂ h₂ => ?_) fun _ _ e => e) fun _ _ e => e)) (fun _ s' ⟨σ', R', x', q⟩ => wpAny_pure (wpAny_pure ⟨_, σ', .next, R', x', q⟩)) fun _ _ e => e)
  refine comp_block (RR := fun acc C => compPost X.M X.A _ (some (assign (.Name y py) X.env)) _ acc C) ok co h₂ ?_
  intro D C s5 ns cf hh
  obtain ⟨m, hn⟩ := ns
  obtain ⟨V, σ5, rv, R5, x5, mC, q⟩ := hh s5.heap ⟨rfl, fun _ _ => rfl⟩
  show wpAny _ _ (assign (.Name y py) X.env (.ref D)) _ _ s5
  refine wpAny_mono (AG_name (Q := fun σ' => (σ' = σ5.set y V)) ok hw rfl s5 _ R5 rv) ?_ fun _ _ e => e
  rintro _ s6 ⟨_, σ6, _, R6, x6, rfl⟩
  obtain ⟨oC, es, ep, hoC, hdC, hrest⟩ := id hn
  have kC := x6.keep C oC hoC mC cf.2.1 cf.2.2.1
  refine ⟨m, ⟨oC, es, ep, kC, hdC, hrest⟩, fun h' hs' => ?_⟩
  have kb : ∀ b o, ¬ (b = C) → s6.heap.get? b = some o → h'.get? b = some o := fun b o q e => hs'.extBut b o q e
  refine ⟨_, R6.touch (W := (· = C)) (t := s6.toks) kb ?_, ?_, q⟩
  · rintro b rfl
    refine ⟨cf.1, cf.2.1, x6.mem _ _ hoC mC, fun o e => ?_⟩
    rw [kC] at e; cases e
    refine ⟨fun z => seq_no_dict z _ _ hdC, fun v z => ?_⟩
    rw [hdC] at z; cases z
  · have x06 := x5.trans R5 x6
    exact ⟨fun b o e m hL ho => kb b o (fun z => by rw [z, cf.2.2.2] at e; cases e) (x06.keep b o e m hL ho), x06.mem, fun b o e => let ⟨o', e'⟩ := x06.live b o e; ⟨o', kb b o' (fun z => by rw [z, cf.2.2.2] at e; cases e) e'⟩⟩
end
end Mine
end
section
open PySem PySem.W PyProof.Rows PySem.Calls
namespace Mine

section
variable {X : Cx} {σ : St} {n : Nat} {pos p p' pos' : Pos}

/-- a clause whose turns leave the memory alone -/
theorem CompK_pure {scope : Scope} {tg elt : Expr} {ifs : List Expr} {Q : Val → St → Prop} {items : List Val} {stay : St → Prop} {σ2 : St} (pr : Val → Bool) (f : Val → Val) (hlen : items.length ≤ 16777216)
    (hst : ∀ σ', (∀ a bx, σ2.mem a = some bx → σ'.mem a = some bx) → stay σ')
    (hb : ∀ C σ' V, (compCx X scope C).Ok n → V ∈ items → (∀ a bx, σ2.mem a = some bx → σ'.mem a = some bx) → (∀ x, scope.names.lookup x = some .free → σ'.loc x = σ2.loc x) →
      AG (compCx X scope C) tg V σ' (fun σ1 => (σ1.mem = σ'.mem ∧ ∀ x, scope.names.lookup x = some .free → σ1.loc x = σ2.loc x) ∧ ATs (compCx X scope C) ifs σ1 (fun b σ3 => σ3 = σ1 ∧ b = pr V ∧ (b = true → AE (compCx X scope C) elt σ3 (fun U σ4 => σ4 = σ3 ∧ U = f V)))))
    (hq : Made σ2 ((items.filter pr).map f) Q) : CompK X n tg ifs elt scope Q items stay σ2 := by
  intro C D hD okc
  have pm : ∀ l a bx, σ2.mem a = some bx → (σ2.put D (.list l)).mem a = some bx := fun l a bx e => by
    rw [St.put_mem, if_neg (fun q => by rw [q, hD] at e; cases e)]; exact e
  refine ⟨hst _ (pm []), ?_⟩
  have go : ∀ (r : List Val) (acc : List Val) (σ' : St), (∀ V ∈ r, V ∈ items) → acc.length + r.length ≤ 16777216 → σ'.mem = (σ2.put D (.list acc)).mem → (∀ x, scope.names.lookup x = some .free → σ'.loc x = σ2.loc x) →
      Made σ2 (acc ++ (r.filter pr).map f) Q → CLoop (compCx X scope C) tg ifs stay (emit (compCx X scope C) D elt) r σ' (compDone D σ2 Q) := by
    intro r
    induction r with
    | nil =>
      intro acc σ' _ _ hm hl hq
      refine .inl ⟨acc, ?_, ?_⟩
      · rw [hm, St.put_mem, if_pos rfl]
      · have e : σ2.back σ' = σ2 := by
          cases σ2 with
          | mk mem loc =>
            simp only [St.back]
            congr 1
            funext a
            rw [hm]
            show (if (mem a).isSome = true then (if a = D then some (Box.list acc) else mem a) else none) = mem a
            cases ea : mem a with
            | none => rfl
            | some bx =>
              have : a ≠ D := fun q => by rw [q] at ea; exact absurd (hD.symm.trans ea) nofun
              simp [this]
        rw [e]
        simpa using hq
    | cons V r ih =>
      intro acc σ' hV hl hm hloc hq
      have hm' : ∀ a bx, σ2.mem a = some bx → σ'.mem a = some bx := fun a bx e => by rw [hm]; exact pm acc a bx e
      intro s v R rv
      refine (hb C σ' V okc (hV V (.head _)) hm' hloc s v R rv).mono ?_
      rintro _ σ1 ⟨⟨hm1, hl1⟩, ht⟩
      have mono : ∀ (ifs : List Expr) (σ1 : St) (P P' : Bool → St → Prop), (∀ b σ3, P b σ3 → P' b σ3) → ATs (compCx X scope C) ifs σ1 P → ATs (compCx X scope C) ifs σ1 P' := by
        intro ifs
        induction ifs with
        | nil => intro σ1 P P' h q; exact h _ _ q
        | cons c r ih => intro σ1 P P' h q; exact q.mono fun b σ3 z => ⟨fun e => ih σ3 P P' h (z.1 e), fun e => h _ _ (z.2 e)⟩
      refine mono _ _ _ _ ?_ ht
      rintro b σ3 ⟨rfl, rfl, he⟩
      have e1 : σ3.mem = (σ2.put D (.list acc)).mem := hm1.trans hm
      refine ⟨fun hb' => ?_, fun hb' => ?_⟩
      · refine T.mono (he hb') ?_
        rintro U σ4 ⟨rfl, rfl⟩
        refine ⟨acc, by rw [e1, St.put_mem, if_pos rfl], by simp at hl; omega, ?_⟩
        have e2 : (σ4.put D (.list (acc ++ [f V]))).mem = (σ2.put D (.list (acc ++ [f V]))).mem := by
          funext a
          show (if a = D then _ else σ4.mem a) = (if a = D then _ else σ2.mem a)
          rw [e1]
          show (if a = D then _ else (if a = D then _ else σ2.mem a)) = _
          by_cases q : a = D <;> simp [q]
        refine ⟨hst _ fun a bx e => by rw [e2]; exact pm _ a bx e, ih _ _ (fun W hW => hV W (.tail _ hW)) (by simp at hl ⊢; omega) e2 hl1 ?_⟩
        rw [List.filter_cons, if_pos hb'] at hq
        simpa using hq
      · refine ⟨hst _ fun a bx e => by rw [e1]; exact pm _ a bx e, ih _ _ (fun W hW => hV W (.tail _ hW)) (by simp at hl ⊢; omega) e1 hl1 ?_⟩
        rw [List.filter_cons, if_neg (by simp [hb'])] at hq
        exact hq
  exact go items [] _ (fun _ h => h) (by simpa using hlen) rfl (fun x hx => by show (if scope.names.lookup x = some .free then σ2.loc x else none) = _; rw [if_pos hx]) (by simpa using hq)

/-- list(range(n)) -/
theorem AE_listrange (ok : X.Ok n) {e : Expr} {Q : Val → St → Prop} (N : BName X (Str.ofString "list") (.type "list")) (N' : BName X (Str.ofString "range") (.type "range"))
    (he : starEach [e] X.env = [(false, eval e X.env)]) (h : AE X e σ (fun V σ1 => ∃ b : Nat, V = .int b ∧ b ≤ 16777216 ∧ Made σ1 ((List.range b).map fun (i : Nat) => Val.int i) Q)) :
    AE X (.Call (.Name (Str.ofString "list") p) [.Call (.Name (Str.ofString "range") p') [e] [] pos'] [] pos) σ Q := fun s R => by
  refine PyProof.Rows.Call_ (name_builtin ok R N.kind N.dbg N.free N.ne N.boot ?_)
  have h' : wpAny X.M X.A (spliced (backTo pos (starEach [.Call (.Name (Str.ofString "range") p') [e] [] pos'] X.env))) (fun vs s' => wpAny X.M X.A (call (.type "list") ([] ++ vs) []) (fun a s' => ∃ b σ', RV s'.heap σ'.mem a b ∧ Rep X σ' s' ∧ Ext X σ s σ' s' ∧ Q b σ') (fun _ _ => False) s') (fun _ _ => False) s := ?_
  · exact PyProof.Rows.callWith_type rfl (evalArgs_plain h')
  refine wpAny_items_cons ?_ rfl
  refine call_type_run (K := fun Vs σ1 => ∃ b : Nat, Vs = [.int b] ∧ b ≤ 16777216 ∧ Made σ1 ((List.range b).map fun (i : Nat) => Val.int i) Q) ok N' he (by rfl) (AEs_cons he (h.mono fun V σ1 ⟨b, hV, h1, h2⟩ => AEs_nil ⟨b, by rw [hV], h1, h2⟩)) R ?_
  rintro vs Vs σ' s' rvs R' x' ⟨b, rfl, hb, hM⟩
  cases rvs with
  | cons rv r =>
    cases r
    obtain ⟨t, rfl⟩ := rv.int_inv
    refine call_range_1 ?_
    refine wpAny_items_nil ?_
    have g := R'.grow (h' := s'.heap.push { cls := .type "range", data := .fields #[.int 0 s'.toks, .int b t, .int 1 (s'.toks + 1)] }) (t := s'.toks + 1 + 1) fun _ _ e => Heap.get?_push_of_some _ e
    have en : Builtin.Range.rangeSize 0 b 1 = (b : Nat) := by
      unfold Builtin.Range.rangeSize
      rw [if_pos (by decide)]
      split
      · rw [Int.ediv_one]; omega
      · omega
    refine call_list_range ok.handled (Heap.get?_push_size _ rfl) (small_1 (by omega) (by omega) (by omega) (by omega)) en (by omega) fun h' tk acc c hk hD hI => ?_
    have rr : RVs (s'.heap.push { cls := .type "range", data := .fields #[.int 0 s'.toks, .int b t, .int 1 (s'.toks + 1)] }) σ'.mem acc.toList ((List.range b).map fun (i : Nat) => Val.int i) := by
      have hi := kll_ints acc.toList 0 b (by rw [Array.length_toList]; exact hI.1) fun j v hj => by
        obtain ⟨t, e⟩ := hI.2 j v (by rw [← hj, Array.getElem?_toList])
        exact ⟨t, e⟩
      have := RVs.of_ints (h := s'.heap.push { cls := .type "range", data := .fields #[.int 0 s'.toks, .int b t, .int 1 (s'.toks + 1)] }) (mem := σ'.mem) hi
      unfold rangeKs at this
      rw [List.map_map] at this
      have e2 : (Val.int ∘ fun (i : Nat) => (0 : Int) + (i : Int)) = fun (i : Nat) => Val.int i := by funext i; simp
      rw [e2] at this
      exact this
    obtain ⟨V, σ6, a1, a2, a3, a4⟩ := hM.take (t := tk) g.1 (heap_top_none _) hk (items := acc.toList) (k := c) (by simpa using hD) rr
    exact ⟨V, σ6, a1, a2, (x'.trans R' g.2).trans g.1 a3, a4⟩
end
end Mine
end
section
open PySem PySem.W PyProof.Rows PySem.Calls
namespace Mine

/-! comprehensions of two clauses -/
theorem compTurn_two (elt target iter target' iter' : Expr) (ifs ifs' : List Expr) (scope : Scope) (pos : Pos) (it acc : Value) (env : Env) :
    compTurn (.ListComp elt [⟨target, iter, ifs, 0⟩, ⟨target', iter', ifs', 0⟩] scope pos) 0 it acc env = (do
      standAt iter.pos
      match ← pyNext it with
      | none => pure (.done .next)
      | some v =>
        letOwnedTupleGo target it v
        assign target env v
        let mut ok := true
        for c in ifs do
          if ok then ok ← isTrue c env (eval c env)
        if ok then
          let x ← eval iter' env
          standAt iter'.pos
          let x ← foldedSetIterable iter' env x
          let _ ← runOwn (.compStart (.ListComp elt [⟨target, iter, ifs, 0⟩, ⟨target', iter', ifs', 0⟩] scope pos) 1 (← holding [x] (pyIter x)) acc env) env
        again (.compLoop (.ListComp elt [⟨target, iter, ifs, 0⟩, ⟨target', iter', ifs', 0⟩] scope pos) 0 it acc env)) := by rfl
theorem compTurn_two' (elt target iter target' iter' : Expr) (ifs ifs' : List Expr) (scope : Scope) (pos : Pos) (it acc : Value) (env : Env) :
    compTurn (.ListComp elt [⟨target, iter, ifs, 0⟩, ⟨target', iter', ifs', 0⟩] scope pos) 0 it acc env = turnT iter.pos target ifs (do
          let x ← eval iter' env
          standAt iter'.pos
          let x ← foldedSetIterable iter' env x
          let _ ← runOwn (.compStart (.ListComp elt [⟨target, iter, ifs, 0⟩, ⟨target', iter', ifs', 0⟩] scope pos) 1 (← holding [x] (pyIter x)) acc env) env) it (.compLoop (.ListComp elt [⟨target, iter, ifs, 0⟩, ⟨target', iter', ifs', 0⟩] scope pos) 0 it acc env) env := by
  rw [compTurn_two]
  unfold turnT
  refine bind_congr fun _ => bind_congr fun r => ?_
  cases r with
  | none => rfl
  | some v =>
    refine bind_congr fun _ => bind_congr fun _ => bind_congr fun ok => ?_
    cases ok with
    | false => rfl
    | true => simp only [if_true, bind_assoc, pure_bind]

section
variable {X : Cx} {σ : St} {n : Nat} {pos : Pos}

theorem codeAny_compStart_two {A : Around} {prog : Program} {w : World} {s : Shared} {R : Result → Shared → Prop} {elt target iter target' iter' : Expr} {ifs ifs' : List Expr} {scope : Scope} {cpos : Pos} {it acc : Value} {env : Env}
    (h0 : codeAny (model prog w) A (.compLoop (.ListComp elt [⟨target, iter, ifs, 0⟩, ⟨target', iter', ifs', 0⟩] scope cpos) 1 it acc env) R s)
    (h : wpAny (model prog w) A (pyIter it) (fun it' s' => codeAny (model prog w) A (.compLoop (.ListComp elt [⟨target, iter, ifs, 0⟩, ⟨target', iter', ifs', 0⟩] scope cpos) 1 it' acc env) R s')
      (notedBy (model prog w) A env fun x s' => R (.error x) s') s) :
    codeAny (model prog w) A (.compStart (.ListComp elt [⟨target, iter, ifs, 0⟩, ⟨target', iter', ifs', 0⟩] scope cpos) 1 it acc env) R s := by
  refine codeAny_of_tree ?_
  show wpAny _ _ ((compStart (.ListComp elt [⟨target, iter, ifs, 0⟩, ⟨target', iter', ifs', 0⟩] scope cpos) 1 it acc env).onRaise (fun x => do noteFrame x env; standAt theWindowsPlace)) _ _ s
  refine wpAny_notedAt ?_
  unfold compStart
  show wpAny _ _ (ask >>= _) _ _ s
  refine wpAny_bind (wpAny_askSetting (wpAny_ite ?_))
  split
  · first
      | exact wpAny_bind (wpAny_pure (wpAny_pure (And.intro rfl h0)))
      | exact wpAny_pure (And.intro rfl h0)
  · first
      | exact wpAny_bind (wpAny_rule (wpAny_bind (wpAny_standAt (wpAny_bind (wpAny_mono h (fun it' s' h' => wpAny_pure (And.intro rfl h')) fun _ _ x => x)))))
      | (refine wpAny_bind (wpAny_rule ?_); show wpAny _ _ (standAt iter'.pos >>= _) _ _ s; exact wpAny_bind (wpAny_standAt (wpAny_bind (wpAny_mono h (fun it' s' h' => wpAny_pure (And.intro rfl h')) fun _ _ x => x))))

/-- the second clause, gone through once -/
def inner2 (X : Cx) (D : Addr) (elt tg' iter' : Expr) (ifs' : List Expr) (σ : St) (K : St → Prop) : Prop :=
  AI X tg' iter' σ (fun items stay σ1 => CLoop X tg' ifs' stay (emit X D elt) items σ1 K)

theorem inner2_run (ok : X.Ok n) {D : Addr} {elt tg iter tg' iter' : Expr} {ifs ifs' : List Expr} {scope : Scope} {cpos : Pos} {K : St → Prop} {s : Shared} (hs : ∀ x, foldedSetIterable iter' X.env x = pure x) (hA : X.A.mark none = X.A) (R : Rep X σ s) (h : inner2 X D elt tg' iter' ifs' σ K) :
    wpAny X.M X.A (do
        let x ← eval iter' X.env
        standAt iter'.pos
        let x ← foldedSetIterable iter' X.env x
        let _ ← runOwn (.compStart (.ListComp elt [⟨tg, iter, ifs, 0⟩, ⟨tg', iter', ifs', 0⟩] scope cpos) 1 (← holding [x] (pyIter x)) (.ref D) X.env) X.env) (fun _ s' => ∃ σ', Rep X σ' s' ∧ Ext X σ s σ' s' ∧ K σ') (fun _ _ => False) s := by
  refine wpAny_bind (wpAny_mono (h s R) ?_ fun _ _ e => e.elim)
  intro x s1 h1
  refine wpAny_bind (wpAny_standAt (wpAny_bind (wpAny_of_eq (hs x) ?_)))
  refine wpAny_bind (wpAny_holding (wpAny_mono h1 ?_ fun _ _ e => e.elim))
  rintro it s2 ⟨I, W, S, items, stay, σ2, rfl, hit, hS, R2, x2, hW, hst, hK⟩
  have hit' := hit X rfl rfl ⟨n, ok⟩ fun b w => ⟨(hW b w).2.1, (hW b w).2.2.1⟩
  have loop : codeAny X.M X.A (.compLoop (.ListComp elt [⟨tg, iter, ifs, 0⟩, ⟨tg', iter', ifs', 0⟩] scope cpos) 1 (.ref I) (.ref D) X.env) (fun r s' => r = .ok .next ∧ ∃ σ', Rep X σ' s' ∧ Ext X σ s σ' s' ∧ K σ') s2 := by
    refine codeAny_mono (CLoop_run (ip := iter'.pos) hit' rfl rfl rfl (fun σ s K R h => emit_run R h) R2 hS hK) ?_
    rintro r s5 ⟨rfl, σ5, R5, x5, hq⟩
    refine ⟨rfl, σ5, R5, ⟨fun b o e m hb ho => ?_, fun b o e m => ?_, fun b o e => ?_⟩, hq⟩
    · have w : ¬ W b := fun w => by rw [(hW b w).1] at e; cases e
      exact x5.keep b o w (x2.keep b o e m hb ho) (x2.mem b o e m) hb ho
    · have w : ¬ W b := fun w => by rw [(hW b w).1] at e; cases e
      obtain ⟨o', e'⟩ := x2.live b o e
      exact x5.mem b o' w e' (x2.mem b o e m)
    · have w : ¬ W b := fun w => by rw [(hW b w).1] at e; cases e
      obtain ⟨o', e'⟩ := x2.live b o e
      exact x5.live b o' w e'
  refine wpAny_bind (wpAny_runOwn ?_)
  rw [hA]
  refine codeAny_mono (codeAny_compStart_two loop (wpAny_mono (hit'.self 0 _ _ hS) (fun v s' ⟨e1, e2⟩ => by subst e1; subst e2; exact loop) fun _ _ e => e.elim)) ?_
  rintro r s5 ⟨rfl, hh⟩
  exact wpAny_pure hh

theorem mark_none (ok : X.Ok n) : X.A.mark none = X.A := by
  have := ok.handled
  cases X with
  | mk B A f sc =>
    cases A
    simp only at this
    subst this
    rfl
theorem comp_block2 {scope : Scope} {tg iter elt tg' iter' : Expr} {ifs ifs' : List Expr} {cpos : Pos} {s s2 : Shared} {it : Value} {Q : Val → St → Prop} (ok : X.Ok n) (co : CompOk X scope) (hs' : ∀ C x, foldedSetIterable iter' (compCx X scope C).env x = pure x) {RR : Value → Addr → Result → Shared → Prop}
    (h : Walking X tg σ s (fun items stay σ2 => ∀ C D, σ2.mem D = none → (compCx X scope C).Ok n → stay ((σ2.put D (.list [])).comp scope) ∧ CLoop (compCx X scope C) tg ifs stay (inner2 (compCx X scope C) D elt tg' iter' ifs') items ((σ2.put D (.list [])).comp scope) (compDone D σ2 Q)) it s2)
    (hRR : ∀ D C s5, (∃ m, s5.heap.Ns C m) → (X.B.h₁.get? C = none ∧ C ≠ X.f.L ∧ C ∉ X.f.own ∧ s.heap.get? C = none) →
      (∀ h', Heap.SameBut C s5.heap h' → ∃ V σ', RV h' σ'.mem (.ref D) V ∧ Rep X σ' { s5 with heap := h' } ∧ Ext X σ s σ' { s5 with heap := h' } ∧ σ'.mem C = none ∧ Q V σ') → RR (.ref D) C (.ok .next) s5) :
    wpAny X.M X.A (newList []) (fun acc s₃ => wpAny X.M X.A (newFunctionEnv scope X.env.globals (closL X.f.cells scope.names []) [] X.env.qual none .none (some X.env)) (fun cenv s₄ =>
      codeAny X.M X.A (.compStart (.ListComp elt [⟨tg, iter, ifs, 0⟩, ⟨tg', iter', ifs', 0⟩] scope cpos) 0 it acc { cenv with scope := relabel scope X.env }) (RR acc cenv.locals) s₄) (fun _ _ => False) s₃) (fun _ _ => False) s2 := by
  obtain ⟨I, W, S, items, stay, σ2, rfl, hit, hS, R2, x2, hW, hst, hK⟩ := h
  refine wpAny_newObj_type ?_
  have fD := R2.fresh (heap_top_none s2.heap)
  have kp3 : ∀ b o, s2.heap.get? b = some o → (s2.heap.push { cls := .type "list", dict := none, data := .seq ([] : List Value).toArray }).get? b = some o := fun b o e => Heap.get?_push_of_some _ e
  have g := R2.new (t := s2.toks) (bx := .list []) (heap_top_none s2.heap) kp3 ⟨[], _, Heap.get?_push_size _ rfl, .nil⟩
  refine comp_enter ok co g.1 ?_
  intro C h4 eC kp4 okc R4 hnew cenv ecenv eL
  have hit' := hit (compCx X scope C) rfl rfl ⟨n, okc⟩ fun b w => by
    obtain ⟨_, _, _, o, e, _⟩ := hW b w
    exact hnew b o (kp3 b o e)
  rw [ecenv, eL]
  have kp : ∀ b o, s2.heap.get? b = some o → h4.get? b = some o := fun b o e => kp4 b o (kp3 b o e)
  obtain ⟨hst4, hK4⟩ := hK C s2.heap.objs.size fD.1 okc
  have g4 := g.1.grow (t := s2.toks) kp4
  have lc : ∀ x V, ((σ2.put s2.heap.objs.size (.list [])).comp scope).loc x = some V → (σ2.put s2.heap.objs.size (.list [])).loc x = some V := fun x V e => by
    have e' : (if scope.names.lookup x = some .free then (σ2.put s2.heap.objs.size (.list [])).loc x else none) = some V := e
    split at e'
    · exact e'
    · cases e'
  have R4' : Rep X ((σ2.put s2.heap.objs.size (.list [])).comp scope) { s2 with heap := h4, toks := s2.toks } := g4.1.less (fun _ _ e => e) lc
  have x4 : Ext X σ2 s2 ((σ2.put s2.heap.objs.size (.list [])).comp scope) { s2 with heap := h4, toks := s2.toks } := (g.2.trans g.1 g4.2).less fun _ _ e => e
  have hS4 : S 0 ((σ2.put s2.heap.objs.size (.list [])).comp scope) h4 := (hit X rfl rfl ⟨n, ok⟩ fun b w => ⟨(hW b w).2.1, (hW b w).2.2.1⟩).frame 0 σ2 s2 _ _ hS R2 x4 R4' hst4
  have loop : codeAny X.M X.A (.compLoop (.ListComp elt [⟨tg, iter, ifs, 0⟩, ⟨tg', iter', ifs', 0⟩] scope cpos) 0 (.ref I) (.ref s2.heap.objs.size) (compCx X scope C).env) (RR (.ref s2.heap.objs.size) C) { s2 with heap := h4, toks := s2.toks } := by
    refine codeAny_mono (CLoop_run (X := compCx X scope C) (ip := iter.pos) hit' rfl rfl (by show Sem.onRaise (compTurn _ _ _ _ _) _ = _; rw [compTurn_two']) (fun σ s K R h => inner2_run (tg := tg) (iter := iter) (ifs := ifs) (scope := scope) (cpos := cpos) okc (hs' C) (mark_none okc) R h) R4 hS4 hK4) ?_
    rintro r s5 ⟨rfl, σ5, R5, x5, hq⟩
    have cn : s2.heap.get? C = none := by
      cases q : s2.heap.get? C with
      | none => rfl
      | some o => exact absurd rfl (hnew C o (kp3 C o q)).1
    refine hRR _ C s5 (let ⟨m, q, _⟩ := R5.env; ⟨m, q⟩) ⟨(R2.fresh cn).2, fun q => ?_, fun q => ?_, ?_⟩ fun h' hs' => ?_
    · obtain ⟨m, ⟨o, _, _, ho, _⟩, _⟩ := R2.env
      rw [← q, cn] at ho; cases ho
    · obtain ⟨m, _, _, hc, _⟩ := R2.env
      obtain ⟨_, v, o', ho', _⟩ := hc _ (.inl q)
      rw [cn] at ho'; cases ho'
    · cases q : s.heap.get? C with
      | none => rfl
      | some o =>
        obtain ⟨o', e'⟩ := x2.live C o q
        rw [cn] at e'; cases e'
    · exact comp_leave R2 x2 fD.1 (heap_top_none s2.heap) (fun b o e => hnew b o (kp3 b o e)) kp hW R5 x5 hs' hq
  exact codeAny_compStart_list loop (wpAny_mono (hit'.self 0 _ _ hS4) (fun v s' ⟨e1, e2⟩ => by subst e1; subst e2; exact loop) fun _ _ e => e.elim)


def CompK2 (X : Cx) (n : Nat) (tg : Expr) (ifs : List Expr) (tg' iter' : Expr) (ifs' : List Expr) (elt : Expr) (scope : Scope) (Q : Val → St → Prop) (items : List Val) (stay : St → Prop) (σ2 : St) : Prop :=
  ∀ C D, σ2.mem D = none → (compCx X scope C).Ok n → stay ((σ2.put D (.list [])).comp scope) ∧ CLoop (compCx X scope C) tg ifs stay (inner2 (compCx X scope C) D elt tg' iter' ifs') items ((σ2.put D (.list [])).comp scope) (compDone D σ2 Q)

theorem AE_comp2 (ok : X.Ok n) {scope : Scope} (co : CompOk X scope) {tg iter elt tg' iter' : Expr} {ifs ifs' : List Expr} {cpos : Pos} {Q : Val → St → Prop} (hs : ∀ x, foldedSetIterable iter X.env x = pure x) (hs' : ∀ C x, foldedSetIterable iter' (compCx X scope C).env x = pure x)
    (h : AI X tg iter σ (CompK2 X n tg ifs tg' iter' ifs' elt scope Q)) : AE X (.ListComp elt [⟨tg, iter, ifs, 0⟩, ⟨tg', iter', ifs', 0⟩] scope cpos) σ Q := fun s R => by
  show wpAny _ _ (eval _ _) _ _ s
  rw [eval_ListComp]
  refine wpAny_comprehension_free (use := none) rfl hs (closureFor_eq fun x hx hf => (co.free x hx hf).1) co.kind (fun y hy hl => by rw [← hl]; exact lookup_nodup co.nodup hy) (wpAny_mono (h s R) (fun xv s₁ h₁ => wpAny_mono h₁ (fun it s₂ h₂ => ?_) fun _ _ e => e) fun _ _ e => e)
  refine comp_block2 (RR := fun acc C => compPost X.M X.A _ none _ acc C) ok co hs' h₂ ?_
  intro D C s5 ns cf hh
  obtain ⟨m, hn⟩ := ns
  refine ⟨m, hn, fun h' hs' => ?_⟩
  obtain ⟨V, σ', rv, R', x', _, q⟩ := hh h' hs'
  exact ⟨V, σ', rv, R', x', q⟩
end

theorem AI.mono {X : Cx} {tg iter : Expr} {σ : St} {K K' : List Val → (St → Prop) → St → Prop} (h : AI X tg iter σ K) (hk : ∀ items stay σ1, K items stay σ1 → K' items stay σ1) : AI X tg iter σ K' := fun s R => by
  refine wpAny_mono (h s R) ?_ fun _ _ e => e
  intro x s1 h1
  refine wpAny_mono h1 ?_ fun _ _ e => e
  rintro it s2 ⟨I, W, S, items, stay, σ', e, hit, hS, R2, x2, hW, hst, hK⟩
  exact ⟨I, W, S, items, stay, σ', e, hit, hS, R2, x2, hW, hst, hk _ _ _ hK⟩
theorem AG.mono {X : Cx} {t : Expr} {V : Val} {σ : St} {Q Q' : St → Prop} (h : AG X t V σ Q) (hk : ∀ σ', Q σ' → Q' σ') : AG X t V σ Q' := fun s v R rv => (h s v R rv).mono fun _ σ' q => hk σ' q

theorem put_back {σ2 σ' : St} {D : Addr} {acc : List Val} (hD : σ2.mem D = none) (hm : σ'.mem = (σ2.put D (.list acc)).mem) : σ2.back σ' = σ2 := by
  cases σ2 with
  | mk mem loc =>
    simp only [St.back]
    congr 1
    funext a
    rw [hm]
    show (if (mem a).isSome = true then (if a = D then some (Box.list acc) else mem a) else none) = mem a
    cases ea : mem a with
    | none => rfl
    | some bx =>
      have : a ≠ D := fun q => by rw [q] at ea; exact absurd (hD.symm.trans ea) nofun
      simp [this]
theorem put_put {σ σ2 : St} {D : Addr} {b b' : Box} (hm : σ.mem = (σ2.put D b).mem) : (σ.put D b').mem = (σ2.put D b').mem := by
  funext a
  show (if a = D then _ else σ.mem a) = (if a = D then _ else σ2.mem a)
  rw [hm]
  show (if a = D then _ else (if a = D then _ else σ2.mem a)) = _
  by_cases q : a = D <;> simp [q]

section
variable {X : Cx} {σ : St} {n : Nat}
/-- two clauses whose turns leave the memory alone -/
theorem CompK2_pure {scope : Scope} {tg tg' iter' elt : Expr} {Q : Val → St → Prop} {items : List Val} {stay : St → Prop} {σ2 : St} (it2 : Val → List Val) (f : Val → Val → Val) (kp : Str → Prop) (hkp : ∀ x, scope.names.lookup x = some .free → kp x)
    (hlen : (items.flatMap it2).length ≤ 16777216) (hst : ∀ σ', (∀ a bx, σ2.mem a = some bx → σ'.mem a = some bx) → stay σ')
    (hb : ∀ C σ' V, (compCx X scope C).Ok n → V ∈ items → (∀ a bx, σ2.mem a = some bx → σ'.mem a = some bx) → (∀ x, scope.names.lookup x = some .free → σ'.loc x = σ2.loc x) →
      AG (compCx X scope C) tg V σ' (fun σ1 => (σ1.mem = σ'.mem ∧ ∀ x, scope.names.lookup x = some .free → σ1.loc x = σ2.loc x) ∧ AI (compCx X scope C) tg' iter' σ1 (fun its stay' σ3 => σ3 = σ1 ∧ its = it2 V ∧ (∀ σ4, (∀ a bx, σ2.mem a = some bx → σ4.mem a = some bx) → stay' σ4) ∧
        ∀ σ4 U, U ∈ it2 V → (∀ a bx, σ2.mem a = some bx → σ4.mem a = some bx) → (∀ x, kp x → σ4.loc x = σ1.loc x) →
          AG (compCx X scope C) tg' U σ4 (fun σ5 => (σ5.mem = σ4.mem ∧ ∀ x, kp x → σ5.loc x = σ1.loc x) ∧ AE (compCx X scope C) elt σ5 (fun Z σ6 => σ6 = σ5 ∧ Z = f V U)))))
    (hq : Made σ2 (items.flatMap fun V => (it2 V).map (f V)) Q) : CompK2 X n tg [] tg' iter' [] elt scope Q items stay σ2 := by
  intro C D hD okc
  have pm : ∀ l a bx, σ2.mem a = some bx → (σ2.put D (.list l)).mem a = some bx := fun l a bx e => by
    rw [St.put_mem, if_neg (fun q => by rw [q, hD] at e; cases e)]; exact e
  refine ⟨hst _ (pm []), ?_⟩
  have go : ∀ (r : List Val) (acc : List Val) (σ' : St), (∀ V ∈ r, V ∈ items) → acc.length + (r.flatMap it2).length ≤ 16777216 → σ'.mem = (σ2.put D (.list acc)).mem → (∀ x, scope.names.lookup x = some .free → σ'.loc x = σ2.loc x) →
      Made σ2 (acc ++ r.flatMap fun V => (it2 V).map (f V)) Q → CLoop (compCx X scope C) tg [] stay (inner2 (compCx X scope C) D elt tg' iter' []) r σ' (compDone D σ2 Q) := by
    intro r
    induction r with
    | nil =>
      intro acc σ' _ _ hm hl hq
      refine .inl ⟨acc, ?_, ?_⟩
      · rw [hm, St.put_mem, if_pos rfl]
      · rw [put_back hD hm]; simpa using hq
    | cons V r ih =>
      intro acc σ' hV hl hm hloc hq
      have hm' : ∀ a bx, σ2.mem a = some bx → σ'.mem a = some bx := fun a bx e => by rw [hm]; exact pm acc a bx e
      refine AG.mono (hb C σ' V okc (hV V (.head _)) hm' hloc) ?_
      rintro σ1 ⟨⟨hm1, hl1⟩, hI⟩
      refine ⟨fun _ => ?_, fun q => nomatch q⟩
      refine AI.mono hI ?_
      rintro its stay' σ3 ⟨rfl, rfl, hst', hin⟩
      have e1 : σ3.mem = (σ2.put D (.list acc)).mem := hm1.trans hm
      have go2 : ∀ (r2 : List Val) (acc2 : List Val) (σ4 : St), (∀ U ∈ r2, U ∈ it2 V) → acc2.length + r2.length + (r.flatMap it2).length ≤ 16777216 → σ4.mem = (σ2.put D (.list acc2)).mem → (∀ x, kp x → σ4.loc x = σ3.loc x) →
          Made σ2 (acc2 ++ r2.map (f V) ++ r.flatMap fun V => (it2 V).map (f V)) Q →
          CLoop (compCx X scope C) tg' [] stay' (emit (compCx X scope C) D elt) r2 σ4 (fun σ7 => stay σ7 ∧ CLoop (compCx X scope C) tg [] stay (inner2 (compCx X scope C) D elt tg' iter' []) r σ7 (compDone D σ2 Q)) := by
        intro r2
        induction r2 with
        | nil =>
          intro acc2 σ4 _ hl4 hm4 hlo4 hq4
          refine ⟨hst _ fun a bx e => by rw [hm4]; exact pm _ a bx e, ih acc2 σ4 (fun W hW => hV W (.tail _ hW)) (by simpa using hl4) hm4 (fun x hx => (hlo4 x (hkp x hx)).trans (hl1 x hx)) ?_⟩
          simpa using hq4
        | cons U r2 ih2 =>
          intro acc2 σ4 hU hl4 hm4 hlo4 hq4
          refine AG.mono (hin σ4 U (hU U (.head _)) (fun a bx e => by rw [hm4]; exact pm _ a bx e) hlo4) ?_
          rintro σ5 ⟨⟨hm5, hl5⟩, hE⟩
          refine ⟨fun _ => ?_, fun q => nomatch q⟩
          refine T.mono hE ?_
          rintro Z σ6 ⟨rfl, rfl⟩
          have e5 : σ6.mem = (σ2.put D (.list acc2)).mem := hm5.trans hm4
          simp only [List.length_cons] at hl4
          refine ⟨acc2, by rw [e5, St.put_mem, if_pos rfl], by omega, ?_⟩
          have e6 := put_put (b' := .list (acc2 ++ [f V U])) e5
          refine ⟨hst' _ fun a bx e => by rw [e6]; exact pm _ a bx e, ih2 (acc2 ++ [f V U]) _ (fun W hW => hU W (.tail _ hW)) (by rw [List.length_append, List.length_singleton]; omega) e6 hl5 ?_⟩
          simpa using hq4
      refine go2 (it2 V) acc σ3 (fun _ h => h) (by rw [List.flatMap_cons, List.length_append] at hl; omega) e1 (fun _ _ => rfl) ?_
      simpa using hq
  exact go items [] _ (fun _ h => h) (by simpa using hlen) rfl (fun x hx => by show (if scope.names.lookup x = some .free then σ2.loc x else none) = _; rw [if_pos hx]) (by simpa using hq)

/-- a clause whose turns make lists that are to be written -/
theorem CompK_refs {scope : Scope} {tg elt : Expr} {Q : Val → St → Prop} {items : List Val} {stay : St → Prop} {σ2 : St} (f : Val → List Val) (hlen : items.length ≤ 16777216)
    (hst : ∀ σ', (∀ a bx, σ2.mem a = some bx → σ'.mem a = some bx) → stay σ')
    (hb : ∀ C σ' V, (compCx X scope C).Ok n → V ∈ items → (∀ a bx, σ2.mem a = some bx → σ'.mem a = some bx) → (∀ x, scope.names.lookup x = some .free → σ'.loc x = σ2.loc x) →
      AG (compCx X scope C) tg V σ' (fun σ1 => (σ1.mem = σ'.mem ∧ ∀ x, scope.names.lookup x = some .free → σ1.loc x = σ2.loc x) ∧ AE (compCx X scope C) elt σ1 (fun U σ4 => ∃ t, U = .ref t ∧ σ1.mem t = none ∧ σ4 = σ1.put t (.list (f V)))))
    (hq : ∀ (D : Addr) (ts : List Addr) (σ6 : St), σ2.mem D = none → ts.length = items.length → ts.Nodup → D ∉ ts → (∀ t ∈ ts, σ2.mem t = none) → σ6.loc = σ2.loc → (∀ a bx, σ2.mem a = some bx → σ6.mem a = some bx) → σ6.mem D = some (.list (ts.map Val.ref)) →
      (∀ (i : Nat) t V, ts[i]? = some t → items[i]? = some V → σ6.mem t = some (.list (f V))) → Q (.ref D) σ6) : CompK X n tg [] elt scope Q items stay σ2 := by
  intro C D hD okc
  refine ⟨hst _ fun a bx e => by
    show (σ2.put D _).mem a = some bx
    rw [St.put_mem, if_neg (fun q => by rw [q, hD] at e; cases e)]; exact e, ?_⟩
  have go : ∀ (r pre : List Val) (ts : List Addr) (σ' : St), pre ++ r = items → ts.length = pre.length → ts.Nodup → D ∉ ts → (∀ t ∈ ts, σ2.mem t = none) → (∀ a bx, σ2.mem a = some bx → σ'.mem a = some bx) → σ'.mem D = some (.list (ts.map Val.ref)) →
      (∀ (i : Nat) t V, ts[i]? = some t → items[i]? = some V → σ'.mem t = some (.list (f V))) → (∀ x, scope.names.lookup x = some .free → σ'.loc x = σ2.loc x) →
      CLoop (compCx X scope C) tg [] stay (emit (compCx X scope C) D elt) r σ' (compDone D σ2 Q) := by
    intro r
    induction r with
    | nil =>
      intro pre ts σ' he hl hn hDt ht2 hm hmD hts hloc
      refine .inr ⟨⟨σ'.mem, σ2.loc⟩, fun _ _ e => e, rfl, ?_⟩
      exact hq D ts _ hD (by rw [hl, ← he]; simp) hn hDt ht2 rfl hm hmD hts
    | cons V r ih =>
      intro pre ts σ' he hl hn hDt ht2 hm hmD hts hloc
      have hVi : items[pre.length]? = some V := by rw [← he]; simp
      refine AG.mono (hb C σ' V okc (by rw [← he]; simp) hm hloc) ?_
      rintro σ1 ⟨⟨hm1, hl1⟩, hE⟩
      refine ⟨fun _ => ?_, fun q => nomatch q⟩
      refine T.mono hE ?_
      rintro U σ4 ⟨t, rfl, ht, rfl⟩
      rw [hm1] at ht
      have htD : D ≠ t := fun q => by rw [← q, hmD] at ht; cases ht
      have htt : ∀ u ∈ ts, u ≠ t := fun u hu q => by
        obtain ⟨i, hi, e⟩ := List.mem_iff_getElem.mp hu
        have hit : ts[i]? = some u := by rw [List.getElem?_eq_getElem hi, e]
        have hil : i < items.length := by rw [← he]; simp; omega
        have := hts i u _ hit (List.getElem?_eq_getElem hil)
        rw [q, ht] at this; cases this
      have mem4 : ∀ a, ((σ1.put t (.list (f V))).put D (.list (ts.map Val.ref ++ [.ref t]))).mem a = if a = D then some (.list (ts.map Val.ref ++ [.ref t])) else if a = t then some (.list (f V)) else σ'.mem a := fun a => by
        rw [St.put_mem, St.put_mem, hm1]
      refine ⟨ts.map Val.ref, by rw [St.put_mem, if_neg htD, hm1]; exact hmD, ?_, ?_⟩
      · rw [List.length_map, hl]
        have := congrArg List.length he
        simp at this; omega
      have hm4 : ∀ a bx, σ2.mem a = some bx → ((σ1.put t (.list (f V))).put D (.list (ts.map Val.ref ++ [.ref t]))).mem a = some bx := fun a bx e => by
        rw [mem4, if_neg (fun q => by rw [q, hD] at e; cases e), if_neg (fun q => ?_)]
        · exact hm a bx e
        · have := hm a bx e
          rw [q, ht] at this; cases this
      have ht2' : σ2.mem t = none := by
        cases e : σ2.mem t with
        | none => rfl
        | some bx => rw [hm t bx e] at ht; cases ht
      refine ⟨hst _ hm4, ih (pre ++ [V]) (ts ++ [t]) _ (by simp [he]) (by simp [hl]) ?_ (by simp [hDt, htD]) ?_ hm4 ?_ ?_ hl1⟩
      · rw [List.nodup_append]
        refine ⟨hn, by simp, fun a ha b hb => ?_⟩
        rw [List.mem_singleton] at hb
        subst hb; exact htt a ha
      · intro u hu
        rcases List.mem_append.mp hu with h | h
        · exact ht2 u h
        · rw [List.mem_singleton] at h; subst h; exact ht2'
      · rw [mem4, if_pos rfl, List.map_append]; rfl
      · intro i u W hu hW
        by_cases hi : i < ts.length
        · rw [List.getElem?_append_left hi] at hu
          have hmem := List.mem_of_getElem? hu
          rw [mem4, if_neg (show ¬ u = D from fun q => hDt (by rw [← q]; exact hmem)), if_neg (htt u hmem)]
          exact hts i u W hu hW
        · have hil := (List.getElem?_eq_some_iff.mp hu).1
          have : i = pre.length := by simp at hil; omega
          subst this
          rw [← hl, List.getElem?_append_right (Nat.le_refl _)] at hu
          simp at hu
          subst hu
          rw [hVi] at hW; cases hW
          rw [mem4, if_neg (Ne.symm htD), if_pos rfl]
  exact go items [] [] _ rfl rfl List.nodup_nil (by simp) (fun _ h => nomatch h) (fun a bx e => by
    show (σ2.put D _).mem a = some bx
    rw [St.put_mem, if_neg (fun q => by rw [q, hD] at e; cases e)]; exact e) (by show (σ2.put D _).mem D = _; rw [St.put_mem, if_pos rfl]; rfl) (fun i t V h => by simp at h) (fun x hx => by show (if scope.names.lookup x = some .free then σ2.loc x else none) = _; rw [if_pos hx])
end
end Mine
end
section
open PySem PySem.W PyProof.Rows PySem.Calls
namespace Mine

section
variable {X : Cx} {σ σ' : St} {n : Nat} {s : Shared}

theorem Rep.refine (R : Rep X σ s) (hm : ∀ a bx, σ'.mem a = some bx → σ.mem a = some bx)
    (hl : ∀ x V', σ'.loc x = some V' → ∃ V, σ.loc x = some V ∧ ∀ v, RV s.heap σ.mem v V → RV s.heap σ'.mem v V') : Rep X σ' s := by
  have nn : ∀ b, σ.mem b = none → σ'.mem b = none := fun b m => by
    cases e : σ'.mem b with
    | none => rfl
    | some bx => rw [hm b bx e] at m; cases m
  refine ⟨R.keep, R.gens, R.os, fun a bx e => ⟨(R.mem a bx (hm a bx e)).1, (R.mem a bx (hm a bx e)).2.mono (fun b o e m _ => ⟨e, nn b m⟩) fun _ e => e⟩, ?_⟩
  obtain ⟨m, hn, hL, hc, hlo⟩ := R.env
  refine ⟨m, hn, nn _ hL, fun c hcc => ⟨nn _ (hc c hcc).1, (hc c hcc).2⟩, fun x V' hx => ?_⟩
  obtain ⟨V, hV, hr⟩ := hl x V' hx
  obtain ⟨hd, v, rv, hh⟩ := hlo x V hV
  refine ⟨hd, v, hr v rv, hh.imp id ?_⟩
  rintro ⟨c, e1, e2, e3, e4⟩
  exact ⟨c, e1, e2, nn _ e3, e4⟩

theorem AS_refine {ss : List Stmt} {Q : Fl → St → Prop} (hm : ∀ a bx, σ'.mem a = some bx → σ.mem a = some bx)
    (hl : ∀ s, Rep X σ s → ∀ x V', σ'.loc x = some V' → ∃ V, σ.loc x = some V ∧ ∀ v, RV s.heap σ.mem v V → RV s.heap σ'.mem v V') (h : AS X ss σ' Q) : AS X ss σ Q := fun s R => by
  have R' := R.refine hm (hl s R)
  have x : Ext X σ s σ' s := Ext.less .refl hm
  exact (h s R').then R' x

theorem RVs.refs {h : Heap} {mem : Mem} : ∀ {vs : List Value} {ts : List Addr}, RVs h mem vs (ts.map Val.ref) → vs = ts.map Value.ref
  | [], [], _ => rfl
  | [], _ :: _, r => by cases r
  | _ :: _, [], r => by cases r
  | v :: vs, t :: ts, r => by
    cases r with
    | cons a r =>
      cases a
      rw [RVs.refs r]; rfl

/-- a table of ints is written no more -/
theorem AS_freeze2 {ss : List Stmt} {Q : Fl → St → Prop} {x : Str} {T : Addr} {ts : List Addr} {rows : List (List Int)} (hx : σ.loc x = some (.ref T)) (hT : σ.mem T = some (.list (ts.map Val.ref))) (hlen : ts.length = rows.length)
    (hts : ∀ (i : Nat) t r, ts[i]? = some t → rows[i]? = some r → σ.mem t = some (.list (r.map Val.int)))
    (h : AS X ss ⟨fun a => if a = T ∨ a ∈ ts then none else σ.mem a, fun y => if y = x then some (.lst (rows.map fun r => .lst (r.map Val.int))) else σ.loc y⟩ Q) : AS X ss σ Q := by
  refine AS_refine (fun a bx e => ?_) ?_ h
  · have e' : (if a = T ∨ a ∈ ts then none else σ.mem a) = some bx := e
    split at e'
    · cases e'
    · exact e'
  intro s R y V' hy
  have hmono : ∀ {v : Value} {V : Val}, RV s.heap σ.mem v V → RV s.heap (fun a => if a = T ∨ a ∈ ts then none else σ.mem a) v V := fun r => r.mono fun b o e m _ => ⟨e, by
    show (if _ then none else σ.mem b) = none
    split
    · rfl
    · exact m⟩
  have hy' : (if y = x then some (Val.lst (rows.map fun r => .lst (r.map Val.int))) else σ.loc y) = some V' := hy
  split at hy'
  · rename_i q
    subst q
    cases hy'
    refine ⟨_, hx, fun v rv => ?_⟩
    cases rv
    obtain ⟨items, k, e, rvs⟩ := R.isL hT
    refine .lst e (by simp) ?_
    have ei := rvs.refs
    subst ei
    have key : ∀ (ts' : List Addr) (rows' : List (List Int)), ts'.length = rows'.length → (∀ (i : Nat) t r, ts'[i]? = some t → rows'[i]? = some r → t ∈ ts ∧ σ.mem t = some (.list (r.map Val.int))) →
        RVs s.heap (fun a => if a = T ∨ a ∈ ts then none else σ.mem a) (ts'.map Value.ref) (rows'.map fun r => .lst (r.map Val.int)) := by
      intro ts'
      induction ts' with
      | nil =>
        intro rows' hl _
        cases rows' with
        | nil => exact .nil
        | cons _ _ => simp at hl
      | cons t ts' ih =>
        intro rows' hl hh
        cases rows' with
        | nil => simp at hl
        | cons r rows' =>
          obtain ⟨hmem, ht⟩ := hh 0 t r rfl rfl
          obtain ⟨its, k', e', rvs'⟩ := R.isL ht
          refine .cons (.lst e' (by simp [hmem]) (RVs.of_ints rvs'.ints)) (ih rows' (by simpa using hl) fun i t r h1 h2 => hh (i + 1) t r (by simpa using h1) (by simpa using h2))
    exact key ts rows hlen fun i t r h1 h2 => ⟨List.mem_of_getElem? h1, hts i t r h1 h2⟩
  · exact ⟨V', hy', fun v rv => hmono rv⟩

set_option maxRecDepth 100000 in
theorem mul_run {prog : Program} {w : World} {A : Around} {E : Value → Shared → Prop} {s : Shared} {l : Addr} {vs : List Value} {k : Nat} {u : Tok} {x : Int} {Q : Value → Shared → Prop} (hl : IsL s.heap l vs.toArray k) (hlo : -(2 ^ 63 : Int) ≤ x) (hhi : x < 2 ^ 63) (hsz : vs.length * x.toNat ≤ 256)
    (h : Q (.ref s.heap.objs.size) { s with heap := s.heap.push { cls := .type "list", data := .seq (List.replicate x.toNat vs).flatten.toArray } }) : wpAny (model prog w) A (binaryOp .Mult (.ref l) (.int x u)) Q E s := by
  have hsz' : vs.toArray.size * x.toNat ≤ 256 := by simpa using hsz
  refine wpAny_binaryOp_repeat_ref (T := "list") (U := "int") (by decide) ⟨_, hl, rfl⟩ (fun s' => typeIs_int s' x u) noFill_list_mul F.fills_int_mul F.slot_int_rmul repeat_list F.slot_int_index.lookup
    (call_meets F.slot_int_rmul (typeIs_int s x u) F.entry_int_rmul (F.args_int_rmul_2 _ _) (lm_int_rmul_list_any x u l vs.toArray k none #[])
      ⟨hl, rfl, ⟨_, hl, rfl⟩, call_meets F.slot_list_mul ⟨_, hl, rfl⟩ F.entry_list_mul (F.args_list_mul_2 _ _)
        (lm_list_mul_any l vs.toArray k none #[] x u (by simp [Builtin.List.listFitsIndex]; omega) (by omega) (by simp [Builtin.List.listTooLong, sizeLine]; omega))
        ⟨hl, ?_⟩⟩)
  rw [listMul_foldl_if]
  exact h

theorem Op_mulList {V : Val} {vs : List Val} {k : Nat} {Q : Val → St → Prop} (hs : SeqOf σ V vs) (hk : vs.length * k ≤ 256) (hk2 : k ≤ 1000000) (h : Made σ (List.replicate k vs).flatten Q) : Op2 X .Mult V (.int k) σ Q := fun s va vb R ra rb => by
  obtain ⟨u, rfl⟩ := rb.int_inv
  obtain ⟨l, items, kk, rfl, e, rvs⟩ := hs.open R ra
  have rr : RVs s.heap σ.mem (List.replicate k items).flatten (List.replicate k vs).flatten := by
    clear h hk hk2 rb
    induction k with
    | zero => exact .nil
    | succ k ih => rw [List.replicate_succ, List.replicate_succ, List.flatten_cons, List.flatten_cons]; exact rvs.append ih
  refine mul_run e (by omega) (by omega) (by simpa [rvs.length] using hk) ?_
  rw [Int.toNat_natCast]
  exact h.take (t := s.toks) R (heap_top_none _) (fun b o e => Heap.get?_push_of_some _ e) (Heap.get?_push_size _ rfl) rr

theorem CompOk_comp (ok : X.Ok n) {sc1 scope : Scope} {C : Addr} (hk : scope.kind = .function) (hn : (scope.names.map (·.1)).Nodup)
    (hf : (scope.names.all fun x => !(x.2 == .free) || sc1.names.lookup x.1 == some .cell || sc1.names.lookup x.1 == some .free) = true) : CompOk (compCx X sc1 C) scope := by
  refine ⟨hk, hn, fun x hx e => ?_⟩
  have := List.all_eq_true.mp hf x hx
  rw [e] at this
  have q : sc1.names.lookup x.1 = some .cell ∨ sc1.names.lookup x.1 = some .free := by simpa using this
  have hcells : (compCx X sc1 C).f.cells = cellsFrom (C + 1) sc1.names [] ++ closL X.f.cells sc1.names [] := rfl
  rw [hcells]
  rcases q with q | q
  · refine ⟨?_, .inl (comp_kind' ok q (by decide))⟩
    obtain ⟨c, hc⟩ := Option.isSome_iff_exists.mp (cellsFrom_some' (n := C + 1) q)
    rw [List.lookup_append, hc]; rfl
  · refine ⟨?_, ?_⟩
    · obtain ⟨c, hc⟩ := Option.isSome_iff_exists.mp (closL_some (cells := X.f.cells) sc1.names [] x.1 (.inl (mem_of_lookup q)))
      rw [List.lookup_append, hc]
      cases (cellsFrom (C + 1) sc1.names []).lookup x.1 <;> rfl
    · have e := lookup_relabel (env := X.env) ok.kind q
      have e' : (compCx X sc1 C).env.kindOf x.1 = some (if NameKind.free = .free ∧ X.env.kindOf x.1 = some .cell then .cell else .free) := e
      rw [e']
      by_cases z : X.env.kindOf x.1 = some .cell
      · left; rw [if_pos ⟨rfl, z⟩]
      · right; rw [if_neg (fun w => z w.2)]
where
  comp_kind' {X : Cx} {n : Nat} (ok : X.Ok n) {scope : Scope} {C : Addr} {x : Str} {k : NameKind} (h : scope.names.lookup x = some k) (hk : k ≠ .free) : (compCx X scope C).env.kindOf x = some k := by
    have e := lookup_relabel (env := X.env) ok.kind h
    have e' : (compCx X scope C).env.kindOf x = some (if k = .free ∧ X.env.kindOf x = some .cell then .cell else k) := e
    rw [e', if_neg (fun q => hk q.1)]

theorem Writes_compC (ok : X.Ok n) {scope : Scope} {C : Addr} {x : Str} (hd : (x == ("__debug__" : Str)) = false) (h : scope.names.lookup x = some .cell) : Writes (compCx X scope C) x := by
  obtain ⟨c, hc⟩ := Option.isSome_iff_exists.mp (cellsFrom_some' (n := C + 1) h)
  refine ⟨hd, .inr ⟨CompOk_comp.comp_kind' ok h (by decide), c, ?_, List.mem_map.mpr ⟨(x, c), mem_of_lookup hc, rfl⟩⟩⟩
  show (cellsFrom (C + 1) scope.names [] ++ closL X.f.cells scope.names []).lookup x = some c
  rw [List.lookup_append, hc]; rfl
end
end Mine
end
section
open PySem PySem.W PyProof.Rows PySem.Calls
namespace Mine

def noSt : St := ⟨fun _ => none, fun _ => none⟩

theorem call_top {B : Base} (bok : B.Ok) {A : Around} {n : Nat} (hA : A.handled = none) (hdep : A.depth + 1 + n < recursionLimit) (hu : A.units + 3 + 10 * n + 100 < cLine)
    {name : Str} {params : List Str} {body : List Stmt} {sc : Scope} {fa : Addr} {fd : FuncData} {o : Obj} (F : FnAt B name params body sc fa fd o) {Vs : List Val} {vs : List Value} {s : Shared} {Q : Val → St → Prop}
    (hh : s.heap = B.h₁) (hg : s.gens = #[]) (hos : s.os = B.os) (rvs : RVs s.heap (fun _ => none) vs Vs) (hl : Vs.length = params.length) (h : CallD B n params body sc Vs noSt Q) :
    wpAny (model B.prog B.w) A (call (.ref fa) vs) (fun v s' => ∃ V σ' mem, RV s'.heap mem v V ∧ Q V σ' ∧ (∀ b o, s.heap.get? b = some o → s'.heap.get? b = some o) ∧ s'.os = s.os ∧ s'.gens = #[]) (fun _ _ => False) s := by
  refine wpAny_call ?_
  have keep : ∀ b o, B.h₁.get? b = some o → s.heap.get? b = some o := fun b o e => by rw [hh]; exact e
  have hvl : vs.length = params.length := rvs.length.trans hl
  refine codeAny_call_cells (body := body) (binds := params.zip vs) (by omega) (keep _ _ F.get) F.data (bok.lim.keeps keep) (F.code.keeps keep) F.body (F.bind vs hvl) F.clo ?_ ?_ (by rw [F.scope]; exact F.co) (by rw [F.scope]; exact F.gen) (by rw [F.scope]; exact F.kind)
  · intro x hx
    have hm : x.1 ∈ params := by
      obtain ⟨a, b⟩ := x
      exact (List.of_mem_zip hx).1
    rw [F.scope]
    rcases (F.kinds _ hm).2 with k | k
    · exact .inl k
    · exact .inr ⟨k, cellsFrom_some' k⟩
  · intro s₁ C
    have eE : callEnvC fd s.heap.objs.size fa = (fnFm s.heap.objs.size (fd.qualname ++ ".<locals>.") fa fd.code sc).env sc := by
      simp only [callEnvC, newEnv, Fm.env, fnFm, F.scope, F.globals, F.builtins]
    rw [eE] at C ⊢
    generalize hX' : (⟨B, A.deeper ((fnFm s.heap.objs.size (fd.qualname ++ ".<locals>.") fa fd.code sc).env sc), fnFm s.heap.objs.size (fd.qualname ++ ".<locals>.") fa fd.code sc, sc⟩ : Cx) = X'
    have eB : X'.B = B := by rw [← hX']
    have eA : X'.A = A.deeper ((fnFm s.heap.objs.size (fd.qualname ++ ".<locals>.") fa fd.code sc).env sc) := by rw [← hX']
    have eF : X'.f = fnFm s.heap.objs.size (fd.qualname ++ ".<locals>.") fa fd.code sc := by rw [← hX']
    have eS : X'.sc = sc := by rw [← hX']
    have eL : X'.f.L = s.heap.objs.size := by rw [eF]; rfl
    have eC : X'.f.cells = cellsFrom (s.heap.objs.size + 1) sc.names [] := by rw [eF]; rfl
    have eO : X'.f.own = (cellsFrom (s.heap.objs.size + 1) sc.names []).map (·.2) := by rw [eF]; rfl
    have above : ∀ c ∈ X'.f.own, s.heap.objs.size < c := by
      intro c hc
      rw [eO] at hc
      obtain ⟨⟨y, c'⟩, hm, rfl⟩ := List.mem_map.mp hc
      exact C.above y c' hm
    have notlive : ∀ c, s.heap.objs.size ≤ c → B.h₁.get? c = none := fun c hc => by rw [← hh]; exact Heap.get?_none_of_le hc
    have ok' : X'.Ok n := by
      refine ⟨eB ▸ bok, eS ▸ F.kind, ?_, ?_, ?_, ?_, ?_, ?_⟩
      · rw [eA]; exact hA
      · rw [eA]; show A.depth + 1 + n < _; exact hdep
      · rw [eA]; show A.units + 3 + 10 * n + 100 < _; exact hu
      · rw [eB, eL]; exact notlive _ (Nat.le_refl _)
      · intro c hc
        refine ⟨?_, by rw [eL]; exact Nat.ne_of_gt (above c hc)⟩
        rw [eB]; exact notlive c (Nat.le_of_lt (above c hc))
      · intro x y c hx hy
        rw [eC] at hx hy
        exact name_of_addr C.apart (mem_of_lookup hx) (mem_of_lookup hy)
    obtain ⟨h₁, tk₁, rfl, hk₁⟩ := C.done
    have R' : Rep X' (noSt.enter params Vs) { s with heap := h₁, toks := tk₁ } := by
      refine ⟨fun b o e => hk₁ b o (keep b o (by rw [← eB]; exact e)), hg, by rw [eB]; exact hos, (fun a bx e => nomatch e), ?_⟩
      refine ⟨_, eL ▸ C.toInCall.ns, rfl, fun c hc => ?_, fun x V hx => ?_⟩
      · replace hc : c ∈ X'.f.own := hc.elim id fun ⟨x, hx⟩ => by rw [eC] at hx; rw [eO]; exact List.mem_map.mpr ⟨(x, c), hx, rfl⟩
        refine ⟨rfl, ?_⟩
        rw [eO] at hc
        obtain ⟨⟨y, c'⟩, hm, rfl⟩ := List.mem_map.mp hc
        have nd : ((cellsFrom (s.heap.objs.size + 1) sc.names []).map (·.1)).Nodup := by
          rw [← cellsFrom_names sc.names 0 (s.heap.objs.size + 1) [] [] rfl]; exact F.cellNd
        exact ⟨_, C.cell y c' (lookup_of_mem_nodup nd hm)⟩
      · obtain ⟨v, hv, rv⟩ := zip_lookup rvs hx
        have hmem := zip_lookup_mem hx
        have nd : ((params.zip vs).map (·.1)).Nodup := by
          rw [List.map_fst_zip (by omega)]; exact F.nodup
        refine ⟨(F.kinds x hmem).1, v, rv.mono fun b o e _ _ => ⟨hk₁ b o e, rfl⟩, ?_⟩
        have ek : X'.env.kindOf x = sc.names.lookup x := by
          show X'.sc.names.lookup x = _; rw [eS]
        rcases (F.kinds x hmem).2 with k | k
        · exact .inl ⟨ek.trans k, bindL_in _ _ x v nd hv k⟩
        · obtain ⟨c, hc⟩ := Option.isSome_iff_exists.mp (cellsFrom_some' (n := s.heap.objs.size + 1) k)
          refine .inr ⟨c, eC ▸ hc, ?_, rfl, .inl (ek.trans k)⟩
          have q := C.cell x c hc
          rw [bindC_in _ _ x v nd hv (by show sc.names.lookup x ≠ _; rw [k]; decide)] at q
          exact q
    have eX : (⟨B, X'.A, fnFm X'.f.L (fd.qualname ++ ".<locals>.") fa fd.code sc, sc⟩ : Cx) = X' := by rw [eL, ← hX']
    have hc := h X'.A X'.f.L (fd.qualname ++ ".<locals>.") fa fd.code (by rw [eX]; exact ok')
    rw [eX] at hc
    have hw := hc _ R'
    rw [show (model B.prog B.w) = X'.M from by rw [← hX'], ← eA, show (fnFm s.heap.objs.size (fd.qualname ++ ".<locals>.") fa fd.code sc).env sc = X'.env from by rw [← hX']]
    refine wpAny_mono hw ?_ fun _ _ e => e.elim
    rintro f s' ⟨fl, σ', rf, R'', x', q⟩
    refine ⟨fl.val, _, σ'.mem, ?_, q, fun b o e => R''.keep b o (by rw [eB, ← hh]; exact e), by rw [R''.os, eB, hos], R''.gens⟩
    cases rf with
    | ret r => exact r
    | next => exact .none
    | brk => exact .none
    | cont => exact .none

theorem FnAt_of_top {p : Program} {loose : List Str} {mean : ExcName → Option Value} {mg mb : Str → Option Value} {h : Heap} (T : Top p loose mean mg mb h) {prog : Program} {w : World} {os : OsState} {d : DefRec} (hd : d ∈ recsOf p) {params : List Str}
    (bind : ∀ pm code doc vals, vals.length = params.length → bindArgs (docDef d.name d.params d.body d.scope pm code doc) ⟨vals, []⟩ = pure (params.zip vals)) (nodup : params.Nodup)
    (kinds : ∀ x ∈ params, (x == ("__debug__" : Str)) = false ∧ (d.scope.names.lookup x = some .local ∨ (d.scope.names.lookup x = some .cell)))
    (cellNd : ((cellsFrom 0 d.scope.names []).map (·.1)).Nodup) (co : d.scope.isCoroutine = false) (gen : d.scope.isGenerator = false) (kind : d.scope.kind = .function) :
    ∃ fa fd o, FnAt ⟨prog, w, h, os, mg, mb⟩ d.name params d.body d.scope fa fd o := by
  obtain ⟨a, o, pm, code, doc, h1, h2, h3, h4⟩ := T.fn d hd
  exact ⟨a, _, o, ⟨h1, h2, h3, h4, rfl, rfl, rfl, rfl, rfl, bind pm code doc, nodup, kinds, cellNd, co, gen, kind⟩⟩
end Mine
end
section
open PySem PySem.W PyProof.Rows PySem.Calls
set_option maxRecDepth 100000
namespace Mine

def recAt (p : Program) (i : Nat) : DefRec := match p.main.body[i]? with
  | some (.FunctionDef name a b _ _ _ sc _ _ pos) => ⟨name, a, b, sc, pos⟩
  | _ => ⟨Str.ofString "", ⟨[], [], none, [], [], none, []⟩, [], ⟨.function, [], false, false, []⟩, ⟨0, 0, 0, 0⟩⟩

theorem loc_hit {σ : St} {x : Str} {V : Val} : (σ.set x V).loc x = some V := by rw [St.set_loc, if_pos rfl]
theorem loc_miss {σ : St} {x y : Str} {V : Val} {W : Option Val} (h : (y == x) = false) (e : σ.loc y = W) : (σ.set x V).loc y = W := by
  rw [St.set_loc, if_neg (by simpa using h)]; exact e
theorem loc_put {σ : St} {a : Addr} {b : Box} {y : Str} {W : Option Val} (e : σ.loc y = W) : (σ.put a b).loc y = W := e
theorem mem_hit {σ : St} {a : Addr} {b : Box} : (σ.put a b).mem a = some b := by rw [St.put_mem, if_pos rfl]
theorem mem_miss {σ : St} {a c : Addr} {b : Box} {o : Option Box} (h : c ≠ a) (e : σ.mem c = o) : (σ.put a b).mem c = o := by rw [St.put_mem, if_neg h]; exact e
theorem mem_set {σ : St} {x : Str} {V : Val} {c : Addr} {o : Option Box} (e : σ.mem c = o) : (σ.set x V).mem c = o := e

theorem back_put {σ σ' : St} {a : Addr} {bx : Box} (h : (σ.mem a).isSome = true) (e : σ'.mem a = some bx) (f : ∀ b, b ≠ a → (σ.mem b).isSome = true → σ'.mem b = σ.mem b) : σ.back σ' = σ.put a bx := by
  cases σ with
  | mk mem loc =>
    simp only [St.back, St.put]
    congr 1
    funext b
    by_cases q : b = a
    · subst q
      simp only at h
      simp [h, e]
    · rw [if_neg q]
      by_cases hb : (mem b).isSome = true
      · rw [if_pos hb]; exact f b q hb
      · rw [if_neg hb]
        cases hm : mem b with
        | none => rfl
        | some z => simp [hm] at hb
theorem back_same {σ σ' : St} (f : ∀ b, (σ.mem b).isSome = true → σ'.mem b = σ.mem b) : σ.back σ' = σ := by
  cases σ with
  | mk mem loc =>
    simp only [St.back]
    congr 1
    funext b
    by_cases hb : (mem b).isSome = true
    · rw [if_pos hb]; exact f b hb
    · rw [if_neg hb]
      cases hm : mem b with
      | none => rfl
      | some z => simp [hm] at hb

abbrev El := List Int
def tv (x : El) : Val := .tup (x.map Val.int)

def sd (x : El) (s : Nat) (p : Nat) (l : List El) : List El :=
  if _h : s < p then
    match l[(p - 1) / 2]? with
    | some y => if lexLt y x = true then sd x s ((p - 1) / 2) (l.set p y) else l.set p x
    | none => l.set p x
  else l.set p x
termination_by p
decreasing_by omega

theorem sd_stop {x : El} {s p : Nat} {l : List El} (h : ¬ s < p) : sd x s p l = l.set p x := by rw [sd, dif_neg h]
theorem sd_up {x y : El} {s p : Nat} {l : List El} (h : s < p) (hy : l[(p - 1) / 2]? = some y) (hl : lexLt y x = true) : sd x s p l = sd x s ((p - 1) / 2) (l.set p y) := by
  rw [sd, dif_pos h, hy]; simp [hl]
theorem sd_end {x y : El} {s p : Nat} {l : List El} (h : s < p) (hy : l[(p - 1) / 2]? = some y) (hl : lexLt y x = false) : sd x s p l = l.set p x := by
  rw [sd, dif_pos h, hy]; simp [hl]
theorem sd_length {x : El} {s : Nat} : ∀ (p : Nat) (l : List El), (sd x s p l).length = l.length := by
  intro p
  induction p using Nat.strongRecOn with
  | ind p ih =>
    intro l
    by_cases h : s < p
    · cases hy : l[(p - 1) / 2]? with
      | none => rw [sd, dif_pos h, hy]; simp
      | some y =>
        cases hl : lexLt y x with
        | true => rw [sd_up h hy hl, ih _ (by omega)]; simp
        | false => rw [sd_end h hy hl]; simp
    · rw [sd_stop h]; simp

def su (x : El) (p : Nat) (l : List El) : List El × Nat :=
  if _h : 2 * p + 1 < l.length then
    let c := if 2 * p + 2 < l.length ∧ lexLt (l.getD (2 * p + 2) []) (l.getD (2 * p + 1) []) = false then 2 * p + 2 else 2 * p + 1
    su x c (l.set p (l.getD c []))
  else (l, p)
termination_by l.length - p
decreasing_by
  simp only [List.length_set]
  split <;> omega

theorem getD_of {l : List El} {i : Nat} {y : El} (h : l[i]? = some y) : l.getD i [] = y := by rw [List.getD_eq_getElem?_getD, h]; rfl

theorem Writes_fn {B : Base} {A : Around} {L : Addr} {qual : Str} {fa : Addr} {code : Value} {sc : Scope} {X : Cx} (hX : (⟨B, A, fnFm L qual fa code sc, sc⟩ : Cx) = X) {x : Str} (hd : (x == ("__debug__" : Str)) = false)
    (h : (sc.names.lookup x == some .local || sc.names.lookup x == some .cell) = true) : Writes X x := by
  subst hX
  refine ⟨hd, ?_⟩
  rcases Bool.or_eq_true_iff.mp h with q | q
  · have q' : sc.names.lookup x = some .local := by simpa using q
    exact .inl q'
  · have q' : sc.names.lookup x = some .cell := by simpa using q
    obtain ⟨c, hc⟩ := Option.isSome_iff_exists.mp (cellsFrom_some' (n := L + 1) q')
    exact .inr ⟨q', c, hc, List.mem_map.mpr ⟨(x, c), mem_of_lookup hc, rfl⟩⟩

theorem comp_kind {X : Cx} {n : Nat} (ok : X.Ok n) {scope : Scope} {C : Addr} {x : Str} {k : NameKind} (h : scope.names.lookup x = some k) (hk : k ≠ .free) : (compCx X scope C).env.kindOf x = some k := by
  have e := lookup_relabel (env := X.env) ok.kind h
  have e' : (compCx X scope C).env.kindOf x = some (if k = .free ∧ X.env.kindOf x = some .cell then .cell else k) := e
  rw [e', if_neg (fun q => hk q.1)]

theorem Writes_comp {X : Cx} {n : Nat} (ok : X.Ok n) {scope : Scope} {C : Addr} {x : Str} (hd : (x == ("__debug__" : Str)) = false) (h : scope.names.lookup x = some .local) : Writes (compCx X scope C) x :=
  ⟨hd, .inl (comp_kind ok h (by decide))⟩

theorem BName_fn {B : Base} {A : Around} {L : Addr} {qual : Str} {fa : Addr} {code : Value} {sc : Scope} {X : Cx} (hX : (⟨B, A, fnFm L qual fa code sc, sc⟩ : Cx) = X) {x : Str} {v : Value} (hg : B.mg x = none) (hd : (x == ("__debug__" : Str)) = false) (hn : (x == ("__name__" : Str)) = false)
    (h : sc.names.lookup x = some .globalImplicit) (hb : bootBuiltins x = some v) : BName X x v := by
  subst hX
  exact ⟨h, hd, hg, by simpa using hn, hb⟩
theorem BName_comp {X : Cx} {n : Nat} (ok : X.Ok n) {scope : Scope} {C : Addr} {x : Str} {v : Value} (hg : X.B.mg x = none) (hd : (x == ("__debug__" : Str)) = false) (hn : (x == ("__name__" : Str)) = false)
    (h : scope.names.lookup x = some .globalImplicit) (hb : bootBuiltins x = some v) : BName (compCx X scope C) x v :=
  ⟨comp_kind ok h (by decide), hd, hg, by simpa using hn, hb⟩

section
variable {X : Cx} {σ : St} {n : Nat} {pos : Pos} {Q : Val → St → Prop}
theorem AE_subN {v i : Expr} (hs : ∀ o x, subscripted i false o x = operate [o, x] (getItem o x))
    (h : AE X v σ (fun a σ1 => AE X i σ1 (fun b σ2 => ∃ (k : Nat) (vs : List Val) (V : Val), b = .int k ∧ SeqOf σ2 a vs ∧ k < 2 ^ 62 ∧ vs[k]? = some V ∧ Q V σ2))) : AE X (.Subscript v i pos) σ Q :=
  AE_sub hs (T.mono h fun _ _ h1 => T.mono h1 fun b σ2 ⟨k, vs, V, e, sq, hk, hv, q⟩ => ⟨k, V, e, .inl ⟨vs, sq, .inl ⟨by omega, by omega, by simpa using hv⟩⟩, q⟩)
theorem AG_itemN {o i : Expr} {V : Val} {Q : St → Prop}
    (h : AE X o σ (fun a σ1 => AE X i σ1 (fun b σ2 => ∃ (l : Addr) (vs : List Val) (k : Nat), a = .ref l ∧ b = .int k ∧ σ2.mem l = some (.list vs) ∧ k < vs.length ∧ vs.length < 2 ^ 62 ∧ Q (σ2.put l (.list (vs.set k V)))))) :
    AG X (.Subscript o i pos) V σ Q :=
  AG_item (T.mono h fun _ _ h1 => T.mono h1 fun b σ2 ⟨l, vs, k, ea, e, hm, hk, hl, q⟩ => ⟨l, vs, k, ea, e, hm, .inl ⟨by omega, by omega, by omega, by simpa using q⟩⟩)
end

theorem map_get {l : List El} {k : Nat} {x : El} (h : l[k]? = some x) : (l.map tv)[k]? = some (tv x) := by rw [List.getElem?_map, h]; rfl
theorem map_set {l : List El} {k : Nat} {x : El} : (l.map tv).set k (tv x) = (l.set k x).map tv := by rw [List.map_set]
theorem get_lt {l : List El} {k : Nat} {x : El} (h : l[k]? = some x) : k < l.length := (List.getElem?_eq_some_iff.mp h).1

/-- the loop of a sift-down, so far -/
structure SdI (a : Addr) (s : Nat) (x : El) (res : List El) (σ₀ : St) (p : Nat) (σ : St) : Prop where
  st : ∃ l : List El, σ.mem a = some (.list (l.map tv)) ∧ l.length = res.length ∧ p < l.length ∧ sd x s p l = res
  heap : σ.loc (Str.ofString "heap") = some (.ref a)
  start : σ.loc (Str.ofString "startpos") = some (.int s)
  new : σ.loc (Str.ofString "newitem") = some (tv x)
  pos : σ.loc (Str.ofString "pos") = some (.int p)
  frame : ∀ b, b ≠ a → σ.mem b = σ₀.mem b

/-- and where it stops -/
structure SdE (a : Addr) (x : El) (res : List El) (σ₀ : St) (fl : Fl) (σ : St) : Prop where
  fl : fl = .next
  st : ∃ (q : Nat) (l : List El), σ.mem a = some (.list (l.map tv)) ∧ q < l.length ∧ l.length = res.length ∧ l.set q x = res ∧ σ.loc (Str.ofString "pos") = some (.int q)
  heap : σ.loc (Str.ofString "heap") = some (.ref a)
  new : σ.loc (Str.ofString "newitem") = some (tv x)
  frame : ∀ b, b ≠ a → σ.mem b = σ₀.mem b

def suC (p : Nat) (l : List El) : Nat := if 2 * p + 2 < l.length ∧ lexLt (l.getD (2 * p + 2) []) (l.getD (2 * p + 1) []) = false then 2 * p + 2 else 2 * p + 1
theorem su_step {x : El} {p : Nat} {l : List El} (h : 2 * p + 1 < l.length) : su x p l = su x (suC p l) (l.set p (l.getD (suC p l) [])) := by
  rw [su, dif_pos h]; rfl
theorem su_stop {x : El} {p : Nat} {l : List El} (h : ¬ 2 * p + 1 < l.length) : su x p l = (l, p) := by rw [su, dif_neg h]
theorem suC_lt {p : Nat} {l : List El} (h : 2 * p + 1 < l.length) : suC p l < l.length ∧ p < suC p l := by
  unfold suC; split <;> omega
theorem su_ok {x : El} : ∀ (k p : Nat) (l : List El), l.length - p = k → p < l.length → (su x p l).1.length = l.length ∧ (su x p l).2 < l.length := by
  intro k
  induction k using Nat.strongRecOn with
  | ind k ih =>
    intro p l hk hp
    by_cases h : 2 * p + 1 < l.length
    · have hc := suC_lt h
      rw [su_step h]
      have := ih (l.length - suC p l) (by omega) (suC p l) (l.set p (l.getD (suC p l) [])) (by simp) (by simpa using hc.1)
      simpa using this
    · rw [su_stop h]; exact ⟨rfl, hp⟩
def sup (x : El) (p : Nat) (l : List El) : List El := sd x p (su x p l).2 ((su x p l).1.set (su x p l).2 x)
theorem sup_length {x : El} {p : Nat} {l : List El} (h : p < l.length) : (sup x p l).length = l.length := by
  unfold sup; rw [sd_length]; simp [(su_ok _ p l rfl h).1]

/-- the loop of a sift-up, so far -/
structure SuI (a : Addr) (s : Nat) (x : El) (res : List El × Nat) (N : Nat) (σ₀ : St) (k : Nat) (σ : St) : Prop where
  st : ∃ (p : Nat) (l : List El), σ.mem a = some (.list (l.map tv)) ∧ l.length = N ∧ p < N ∧ k = N - p ∧ su x p l = res ∧ σ.loc (Str.ofString "pos") = some (.int p) ∧ σ.loc (Str.ofString "childpos") = some (.int (2 * p + 1 : Nat))
  heap : σ.loc (Str.ofString "heap") = some (.ref a)
  start : σ.loc (Str.ofString "startpos") = some (.int s)
  new : σ.loc (Str.ofString "newitem") = some (tv x)
  fin : σ.loc (Str.ofString "endpos") = some (.int N)
  frame : ∀ b, b ≠ a → σ.mem b = σ₀.mem b
structure SuE (a : Addr) (s : Nat) (x : El) (res : List El × Nat) (σ₀ : St) (fl : Fl) (σ : St) : Prop where
  fl : fl = .next
  st : σ.mem a = some (.list (res.1.map tv))
  pos : σ.loc (Str.ofString "pos") = some (.int res.2)
  heap : σ.loc (Str.ofString "heap") = some (.ref a)
  start : σ.loc (Str.ofString "startpos") = some (.int s)
  new : σ.loc (Str.ofString "newitem") = some (tv x)
  frame : ∀ b, b ≠ a → σ.mem b = σ₀.mem b
end Mine
end
section
namespace Mine

theorem lex_irrefl : ∀ x : El, lexLt x x = false
  | [] => rfl
  | a :: r => by simp [lexLt, lex_irrefl r]
theorem lex_trans : ∀ {x y z : El}, lexLt x y = true → lexLt y z = true → lexLt x z = true
  | [], [], _, h, _ => by simp [lexLt] at h
  | [], b :: y, [], _, h => by simp [lexLt] at h
  | [], b :: y, c :: z, _, _ => by simp [lexLt]
  | a :: x, [], _, h, _ => by simp [lexLt] at h
  | a :: x, b :: y, [], _, h => by simp [lexLt] at h
  | a :: x, b :: y, c :: z, h1, h2 => by
    simp only [lexLt] at h1 h2 ⊢
    have ih := @lex_trans x y z
    by_cases e1 : a = b <;> by_cases e2 : b = c
    · subst e1; subst e2; simp at h1 h2 ⊢; exact ih h1 h2
    · subst e1; simp [e2] at h1 h2 ⊢; exact h2
    · subst e2; simp [e1] at h1 h2 ⊢; exact h1
    · simp [e1, e2] at h1 h2
      have : a ≠ c := by omega
      simp [this]; omega
theorem lex_total : ∀ {x y : El}, lexLt x y = false → lexLt y x = false → x = y
  | [], [], _, _ => rfl
  | [], b :: y, h, _ => by simp [lexLt] at h
  | a :: x, [], _, h => by simp [lexLt] at h
  | a :: x, b :: y, h1, h2 => by
    simp only [lexLt] at h1 h2
    by_cases e : a = b
    · subst e; simp at h1 h2; rw [lex_total h1 h2]
    · have e' : b ≠ a := Ne.symm e
      simp [e, e'] at h1 h2; omega
theorem lex_asymm {x y : El} (h : lexLt x y = true) : lexLt y x = false := by
  cases e : lexLt y x with
  | false => rfl
  | true => have := lex_trans h e; rw [lex_irrefl] at this; cases this
/-- y is no greater than x -/
def Ge (x y : El) : Prop := lexLt x y = false
theorem Ge.refl (x : El) : Ge x x := lex_irrefl x
theorem Ge.of_lt {x y : El} (h : lexLt y x = true) : Ge x y := lex_asymm h
theorem Ge.trans {x y z : El} (h : Ge x y) (h' : Ge y z) : Ge x z := by
  unfold Ge at *
  cases e : lexLt x z with
  | false => rfl
  | true =>
    cases e2 : lexLt z y with
    | true => rw [lex_trans e e2] at h; cases h
    | false =>
      have := lex_total h' e2
      subst this
      rw [h] at e; cases e

def g (l : List El) (i : Nat) : El := l.getD i []
theorem g_set {l : List El} {i j : Nat} {y : El} (hi : i < l.length) : g (l.set i y) j = if j = i then y else g l j := by
  unfold g
  rw [List.getD_eq_getElem?_getD, List.getD_eq_getElem?_getD, List.getElem?_set]
  by_cases h : i = j
  · subst h; simp [hi]
  · simp [h, Ne.symm h]
theorem g_of {l : List El} {i : Nat} {y : El} (h : l[i]? = some y) : g l i = y := getD_of h
theorem g_mem {l : List El} {i : Nat} (h : i < l.length) : g l i ∈ l := by
  unfold g; rw [List.getD_eq_getElem?_getD, List.getElem?_eq_getElem h]; exact List.getElem_mem h

/-- from place s on, none is greater than the one over it -/
def HF (l : List El) (s : Nat) : Prop := ∀ i, i < l.length → 1 ≤ i → s ≤ (i - 1) / 2 → Ge (g l ((i - 1) / 2)) (g l i)

inductive Sub (s : Nat) : Nat → Prop
  | root : Sub s s
  | left {q : Nat} : Sub s q → Sub s (2 * q + 1)
  | right {q : Nat} : Sub s q → Sub s (2 * q + 2)
theorem Sub.le {s p : Nat} (h : Sub s p) : s ≤ p := by
  induction h with
  | root => exact Nat.le_refl _
  | left _ ih => omega
  | right _ ih => omega
theorem Sub.up {s p : Nat} (h : Sub s p) (hn : p ≠ s) : Sub s ((p - 1) / 2) ∧ s ≤ (p - 1) / 2 ∧ 1 ≤ p := by
  cases h with
  | root => exact absurd rfl hn
  | left q => rename_i r; rw [show (2 * r + 1 - 1) / 2 = r from by omega]; exact ⟨q, q.le, by omega⟩
  | right q => rename_i r; rw [show (2 * r + 2 - 1) / 2 = r from by omega]; exact ⟨q, q.le, by omega⟩
theorem Sub.zero : ∀ p, Sub 0 p := by
  intro p
  induction p using Nat.strongRecOn with
  | ind p ih =>
    by_cases h : p = 0
    · subst h; exact .root
    · by_cases e : p % 2 = 1
      · have := Sub.left (ih (p / 2) (by omega))
        rwa [show 2 * (p / 2) + 1 = p from by omega] at this
      · have := Sub.right (ih (p / 2 - 1) (by omega))
        rwa [show 2 * (p / 2 - 1) + 2 = p from by omega] at this

theorem count_set' {l : List El} {i : Nat} (h : i < l.length) (y z : El) : (l.set i y).count z + (if g l i = z then 1 else 0) = l.count z + (if y = z then 1 else 0) := by
  have e := List.count_set (a := y) (b := z) (l := l) (i := i) h
  rw [e]
  have hg : l[i] = g l i := by unfold g; rw [List.getD_eq_getElem?_getD, List.getElem?_eq_getElem h]; rfl
  simp only [hg, beq_iff_eq]
  by_cases q : g l i = z
  · have : 0 < l.count z := List.count_pos_iff.mpr (q ▸ g_mem h)
    simp [q]; split <;> omega
  · simp [q]

/-- the hole goes from p to c -/
theorem perm_move {l : List El} {p c : Nat} (x : El) (hp : p < l.length) (hc : c < l.length) (hn : p ≠ c) : ((l.set p (g l c)).set c x).Perm (l.set p x) := by
  rw [List.perm_iff_count]
  intro z
  have e1 := count_set' (l := l.set p (g l c)) (i := c) (by simpa using hc) x z
  have e2 := count_set' (l := l) (i := p) hp (g l c) z
  have e3 := count_set' (l := l) (i := p) hp x z
  rw [g_set hp, if_neg (Ne.symm hn)] at e1
  omega

structure Up (l : List El) (s p : Nat) (x : El) : Prop where
  sub : Sub s p
  lt : p < l.length
  pairs : ∀ i, i < l.length → 1 ≤ i → s ≤ (i - 1) / 2 → i ≠ p → (i - 1) / 2 ≠ p → Ge (g l ((i - 1) / 2)) (g l i)
  kids : ∀ c, c < l.length → 1 ≤ c → (c - 1) / 2 = p → Ge x (g l c)
  grand : ∀ c, c < l.length → 1 ≤ c → (c - 1) / 2 = p → p ≠ s → Ge (g l ((p - 1) / 2)) (g l c)

theorem Up.fin {l : List El} {s p : Nat} {x : El} (u : Up l s p x) (h : p ≠ s → Ge (g l ((p - 1) / 2)) x) : HF (l.set p x) s := by
  intro i hi h1 hs
  rw [List.length_set] at hi
  rw [g_set u.lt, g_set u.lt]
  by_cases e1 : i = p
  · subst e1
    rw [if_pos rfl, if_neg (by omega)]
    refine h fun e => ?_
    subst e
    omega
  · rw [if_neg e1]
    by_cases e2 : (i - 1) / 2 = p
    · rw [if_pos e2]; exact u.kids i hi h1 e2
    · rw [if_neg e2]; exact u.pairs i hi h1 hs e1 e2

theorem Up.step {l : List El} {s p : Nat} {x : El} (u : Up l s p x) (hn : p ≠ s) (hl : lexLt (g l ((p - 1) / 2)) x = true) : Up (l.set p (g l ((p - 1) / 2))) s ((p - 1) / 2) x := by
  obtain ⟨us, hs, h1⟩ := u.sub.up hn
  have hlt := u.lt
  have px : Ge x (g l ((p - 1) / 2)) := Ge.of_lt hl
  refine ⟨us, by rw [List.length_set]; omega, fun i hi hi1 hsi e1 e2 => ?_, fun c hc hc1 ec => ?_, fun c hc hc1 ec hns => ?_⟩
  · rw [List.length_set] at hi
    have e3 : i ≠ p := fun q => by subst q; exact e2 rfl
    rw [g_set u.lt, g_set u.lt, if_neg e3]
    by_cases e4 : (i - 1) / 2 = p
    · rw [if_pos e4]; exact u.grand i hi hi1 e4 hn
    · rw [if_neg e4]; exact u.pairs i hi hi1 hsi e3 e4
  · rw [List.length_set] at hc
    rw [g_set u.lt]
    by_cases e3 : c = p
    · rw [if_pos e3]; exact px
    · rw [if_neg e3]
      have := u.pairs c hc hc1 (by rw [ec]; exact hs) e3 (by rw [ec]; omega)
      rw [ec] at this
      exact px.trans this
  · rw [List.length_set] at hc
    obtain ⟨_, hs2, h2⟩ := us.up hns
    have pg := u.pairs ((p - 1) / 2) (by omega) h2 hs2 (by omega) (by omega)
    rw [g_set u.lt, g_set u.lt, if_neg (by omega)]
    by_cases e3 : c = p
    · rw [if_pos e3]; exact pg
    · rw [if_neg e3]
      have := u.pairs c hc hc1 (by rw [ec]; exact hs) e3 (by rw [ec]; omega)
      rw [ec] at this
      exact pg.trans this

theorem sd_spec {x : El} {s : Nat} : ∀ (p : Nat) (l : List El), Up l s p x → HF (sd x s p l) s ∧ (sd x s p l).Perm (l.set p x) := by
  intro p
  induction p using Nat.strongRecOn with
  | ind p ih =>
    intro l u
    by_cases h : s < p
    · have hlt := u.lt
      have hpar : (p - 1) / 2 < l.length := by omega
      have hy : l[(p - 1) / 2]? = some (g l ((p - 1) / 2)) := by unfold g; rw [List.getD_eq_getElem?_getD, List.getElem?_eq_getElem hpar]; rfl
      cases hl : lexLt (g l ((p - 1) / 2)) x with
      | true =>
        rw [sd_up h hy hl]
        obtain ⟨a, b⟩ := ih ((p - 1) / 2) (by omega) _ (u.step (by omega) hl)
        exact ⟨a, b.trans (perm_move x hlt hpar (by omega))⟩
      | false =>
        rw [sd_end h hy hl]
        exact ⟨u.fin fun _ => hl, .refl _⟩
    · rw [sd_stop h]
      refine ⟨u.fin fun hn => ?_, .refl _⟩
      have := u.sub.le
      omega

structure Dn (l : List El) (s p : Nat) : Prop where
  sub : Sub s p
  lt : p < l.length
  pairs : ∀ i, i < l.length → 1 ≤ i → s ≤ (i - 1) / 2 → i ≠ p → (i - 1) / 2 ≠ p → Ge (g l ((i - 1) / 2)) (g l i)
  grand : ∀ c, c < l.length → 1 ≤ c → (c - 1) / 2 = p → p ≠ s → Ge (g l ((p - 1) / 2)) (g l c)

theorem suC_par {p : Nat} {l : List El} : (suC p l - 1) / 2 = p ∧ (suC p l = 2 * p + 1 ∨ suC p l = 2 * p + 2) := by
  unfold suC; split <;> omega
theorem suC_max {p : Nat} {l : List El} (h : 2 * p + 1 < l.length) : ∀ c, c < l.length → 1 ≤ c → (c - 1) / 2 = p → Ge (g l (suC p l)) (g l c) := by
  intro c hc h1 e
  have ec : c = 2 * p + 1 ∨ c = 2 * p + 2 := by omega
  unfold suC
  split
  · rename_i q
    rcases ec with rfl | rfl
    · exact q.2
    · exact Ge.refl _
  · rename_i q
    rcases ec with rfl | rfl
    · exact Ge.refl _
    · unfold Ge
      cases e2 : lexLt (g l (2 * p + 1)) (g l (2 * p + 2)) with
      | false => rfl
      | true => exact absurd ⟨hc, lex_asymm e2⟩ q

theorem Dn.step {l : List El} {s p : Nat} (u : Dn l s p) (h : 2 * p + 1 < l.length) : Dn (l.set p (g l (suC p l))) s (suC p l) := by
  have hc := suC_lt h
  obtain ⟨e1, e2⟩ := suC_par (p := p) (l := l)
  have hmax := suC_max h
  have hsp := u.sub.le
  have hpl := u.lt
  refine ⟨?_, by rw [List.length_set]; exact hc.1, fun i hi hi1 hsi n1 n2 => ?_, fun c hcl hc1 ec hns => ?_⟩
  · rcases e2 with e | e
    · rw [e]; exact .left u.sub
    · rw [e]; exact .right u.sub
  · rw [List.length_set] at hi
    rw [g_set u.lt, g_set u.lt]
    by_cases e3 : i = p
    · rw [if_pos e3, if_neg (by omega)]
      subst e3
      exact u.grand (suC i l) hc.1 (by omega) e1 (by omega)
    · rw [if_neg e3]
      by_cases e4 : (i - 1) / 2 = p
      · rw [if_pos e4]; exact hmax i hi hi1 e4
      · rw [if_neg e4]; exact u.pairs i hi hi1 hsi e3 e4
  · rw [List.length_set] at hcl
    rw [g_set u.lt, g_set u.lt, e1, if_pos rfl, if_neg (by omega)]
    have := u.pairs c hcl hc1 (by omega) (by omega) (by omega)
    rw [ec] at this
    exact this

theorem su_spec {x : El} {s : Nat} : ∀ (k p : Nat) (l : List El), l.length - p = k → Dn l s p → Dn (su x p l).1 s (su x p l).2 ∧ ¬ 2 * (su x p l).2 + 1 < (su x p l).1.length ∧ ((su x p l).1.set (su x p l).2 x).Perm (l.set p x) := by
  intro k
  induction k using Nat.strongRecOn with
  | ind k ih =>
    intro p l hk u
    by_cases h : 2 * p + 1 < l.length
    · have hc := suC_lt h
      rw [su_step h]
      obtain ⟨a, b, c⟩ := ih (l.length - suC p l) (by omega) (suC p l) (l.set p (l.getD (suC p l) [])) (by simp) (u.step h)
      exact ⟨a, b, c.trans (perm_move x u.lt hc.1 (by omega))⟩
    · rw [su_stop h]; exact ⟨u, h, .refl _⟩

/-- a sift-up from s makes a heap from s on of a heap behind s -/
theorem sup_spec {x : El} {s : Nat} {l : List El} (hs : l[s]? = some x) (h : HF l (s + 1)) : HF (sup x s l) s ∧ (sup x s l).Perm l := by
  have hlt := get_lt hs
  have d : Dn l s s := ⟨.root, hlt, fun i hi h1 hsi n1 n2 => h i hi h1 (by omega), fun c _ _ _ n => absurd rfl n⟩
  obtain ⟨u, hleaf, pm⟩ := su_spec (x := x) _ s l rfl d
  have ul : Up ((su x s l).1.set (su x s l).2 x) s (su x s l).2 x := by
    refine ⟨u.sub, by rw [List.length_set]; exact u.lt, fun i hi h1 hsi n1 n2 => ?_, fun c hc h1 e => ?_, fun c hc h1 e => ?_⟩
    · rw [List.length_set] at hi
      rw [g_set u.lt, g_set u.lt, if_neg n1, if_neg n2]
      exact u.pairs i hi h1 hsi n1 n2
    · rw [List.length_set] at hc; omega
    · rw [List.length_set] at hc; omega
  obtain ⟨a, b⟩ := sd_spec _ _ ul
  refine ⟨a, b.trans ?_⟩
  rw [List.set_set]
  refine pm.trans ?_
  rw [set_same hs]
where
  set_same {l : List El} {s : Nat} {x : El} (h : l[s]? = some x) : l.set s x = l := by
    apply List.ext_getElem?
    intro i
    rw [List.getElem?_set]
    split
    · rename_i e; subst e; rw [h]; simp [get_lt h]
    · rfl

theorem HF.top {l : List El} (h : HF l 0) : ∀ i, i < l.length → Ge (g l 0) (g l i) := by
  intro i
  induction i using Nat.strongRecOn with
  | ind i ih =>
    intro hi
    by_cases e : i = 0
    · subst e; exact Ge.refl _
    · exact (ih ((i - 1) / 2) (by omega) (by omega)).trans (h i hi (by omega) (Nat.zero_le _))
theorem HF.top_mem {l : List El} (h : HF l 0) {x : El} (hx : x ∈ l) : Ge (g l 0) x := by
  obtain ⟨i, hi, rfl⟩ := List.mem_iff_getElem.mp hx
  have := h.top i hi
  have e : g l i = l[i] := g_of (List.getElem?_eq_getElem hi)
  rw [e] at this
  exact this
/-- one more comes in at the end -/
theorem push_spec {x : El} {l : List El} (h : HF l 0) : HF (sd x 0 l.length (l ++ [x])) 0 ∧ (sd x 0 l.length (l ++ [x])).Perm (l ++ [x]) := by
  have ga : ∀ i, i < l.length → g (l ++ [x]) i = g l i := fun i hi => by
    unfold g; rw [List.getD_eq_getElem?_getD, List.getD_eq_getElem?_getD, List.getElem?_append_left hi]
  have u : Up (l ++ [x]) 0 l.length x := by
    refine ⟨.zero _, by simp, fun i hi h1 hs n1 n2 => ?_, fun c hc h1 e => ?_, fun c hc h1 e => ?_⟩
    · simp at hi
      rw [ga _ (by omega), ga _ (by omega)]
      exact h i (by omega) h1 (Nat.zero_le _)
    · simp at hc; omega
    · simp at hc; omega
  obtain ⟨a, b⟩ := sd_spec _ _ u
  refine ⟨a, b.trans ?_⟩
  rw [sup_spec.set_same (by simp)]
theorem pop_spec {l : List El} {y x : El} (h : HF (l ++ [y]) 0) (hx : l[0]? = some x) : HF (sup y 0 (l.set 0 y)) 0 ∧ (x :: sup y 0 (l.set 0 y)).Perm (l ++ [y]) := by
  have h0 := get_lt hx
  have ga : ∀ i, i < l.length → g (l ++ [y]) i = g l i := fun i hi => by
    unfold g; rw [List.getD_eq_getElem?_getD, List.getD_eq_getElem?_getD, List.getElem?_append_left hi]
  obtain ⟨a, b⟩ := sup_spec (x := y) (s := 0) (l := l.set 0 y) (by rw [List.getElem?_set_self h0]) (by
    intro i hi h1 hs
    rw [List.length_set] at hi
    rw [g_set h0, g_set h0, if_neg (by omega), if_neg (by omega)]
    have := h i (by simp; omega) h1 (Nat.zero_le _)
    rw [ga _ (by omega), ga _ hi] at this
    exact this)
  refine ⟨a, (List.Perm.cons x b).trans ?_⟩
  cases l with
  | nil => simp at hx
  | cons z r =>
    simp at hx
    subst hx
    simp only [List.set_cons_zero, List.cons_append]
    exact List.Perm.cons _ (List.perm_append_singleton y r).symm

end Mine
end
section
open PySem PySem.W PyProof.Rows PySem.Calls
namespace Mine

theorem ForL_inv {X : Cx} {tg : Expr} {body : List Stmt} {stay : St → Prop} {Q : Fl → St → Prop} {items : List Val} (I : Nat → St → Prop)
    (turn : ∀ i σ V, items[i]? = some V → I i σ → AG X tg V σ (fun σ1 => AS X body σ1 (fun fl σ2 => (fl = .next ∨ fl = .cont) ∧ stay σ2 ∧ I (i + 1) σ2)))
    (fin : ∀ σ, I items.length σ → Q .next σ) {σ : St} (h : I 0 σ) : ForL X tg body stay Q items σ := by
  have go : ∀ (r : List Val) (i : Nat) (σ : St), items.drop i = r → i ≤ items.length → I i σ → ForL X tg body stay Q r σ := by
    intro r
    induction r with
    | nil =>
      intro i σ e hi hI
      have : i = items.length := by
        have := congrArg List.length e
        simp at this; omega
      subst this
      exact fin σ hI
    | cons V r ih =>
      intro i σ e hi hI
      have hlt : i < items.length := by
        have := congrArg List.length e
        simp at this; omega
      rw [List.drop_eq_getElem_cons hlt] at e
      injection e with e1 e2
      intro s v R rv
      refine (turn i σ V (by rw [List.getElem?_eq_getElem hlt, e1]) hI s v R rv).mono ?_
      intro _ σ1 h1
      refine T.mono h1 ?_
      rintro fl σ2 ⟨hf, hs, hI2⟩
      rcases hf with rfl | rfl
      · exact ⟨hs, ih (i + 1) σ2 e2 hlt hI2⟩
      · exact ⟨hs, ih (i + 1) σ2 e2 hlt hI2⟩
  exact go items 0 σ rfl (Nat.zero_le _) h

theorem SeqOf.put {σ : St} {V : Val} {vs : List Val} {D : Addr} {b : Box} (h : SeqOf σ V vs) (hD : σ.mem D = none) : SeqOf (σ.put D b) V vs := by
  rcases h with h | ⟨a, h, e⟩
  · exact .inl h
  · exact .inr ⟨a, h, by rw [St.put_mem, if_neg (fun q => by rw [q, hD] at e; cases e)]; exact e⟩
theorem SeqOf.of_mem {σ σ' : St} {V : Val} {vs : List Val} (h : SeqOf σ V vs) (e : ∀ a bx, σ.mem a = some bx → σ'.mem a = some bx) : SeqOf σ' V vs := by
  rcases h with h | ⟨a, h, q⟩
  · exact .inl h
  · exact .inr ⟨a, h, e a _ q⟩

theorem clip_nat (n k : Nat) : clipAt n (k : Int) = min k n := by
  unfold clipAt
  rw [if_neg (by omega)]
  omega
theorem pick_lh (vs : List Val) (lo hi : Nat) : pickV vs (some (lo : Int)) (some (hi : Int)) none = (vs.drop lo).take (hi - lo) := by
  rw [pickV_plain]
  simp only [Option.elim, clip_nat]
  by_cases h : lo ≤ vs.length
  · rw [Nat.min_eq_left h]
    by_cases h2 : hi ≤ vs.length
    · rw [Nat.min_eq_left h2]
    · rw [Nat.min_eq_right (by omega), List.take_of_length_le (by simp), List.take_of_length_le (by simp; omega)]
  · have h' : vs.length ≤ lo := by omega
    rw [Nat.min_eq_right h', List.drop_length, List.drop_eq_nil_of_le h']
    simp
theorem pick_l (vs : List Val) (lo : Nat) : pickV vs (some (lo : Int)) none none = vs.drop lo := by
  rw [pickV_plain]
  simp only [Option.elim, clip_nat]
  by_cases h : lo ≤ vs.length
  · rw [Nat.min_eq_left h, List.take_of_length_le (by simp)]
  · have h' : vs.length ≤ lo := by omega
    rw [Nat.min_eq_right h', List.drop_length, List.drop_eq_nil_of_le h']
    simp
theorem pick_h (vs : List Val) (hi : Nat) : pickV vs none (some (hi : Int)) none = vs.take hi := by
  rw [pickV_plain]
  simp only [Option.elim, clip_nat, List.drop_zero, Nat.sub_zero]
  by_cases h : hi ≤ vs.length
  · rw [Nat.min_eq_left h]
  · rw [Nat.min_eq_right (by omega), List.take_of_length_le (Nat.le_refl _), List.take_of_length_le (by omega)]

def Val.toInt : Val → Int
  | .int i => i
  | _ => 0
theorem pick_ints (ns : List Int) (lo hi st : Option Int) : pickV (ns.map Val.int) lo hi st = ((pickV (ns.map Val.int) lo hi st).map Val.toInt).map Val.int := by
  unfold pickV
  generalize sliceRange _ _ _ = idx
  induction idx with
  | nil => rfl
  | cons i r ih =>
    rw [List.filterMap_cons, List.getElem?_map]
    cases e : ns[i]? with
    | none => simpa using ih
    | some k => simp only [Option.map_some, List.map_cons, Val.toInt]; rw [← ih]

/-- while a list is being built and everything else stays -/
theorem sub_mem {σ σ' : St} {D : Addr} {b : Box} (hD : σ.mem D = none) (e : σ'.mem = (σ.put D b).mem) : ∀ a bx, σ.mem a = some bx → σ'.mem a = some bx := fun a bx h => by
  rw [e, St.put_mem, if_neg (fun q => by rw [q, hD] at h; cases h)]; exact h

theorem CompOk_fn {B : Base} {A : Around} {L : Addr} {qual : Str} {fa : Addr} {code : Value} {sc : Scope} {X : Cx} (hX : (⟨B, A, fnFm L qual fa code sc, sc⟩ : Cx) = X) {scope : Scope} (hk : scope.kind = .function) (hn : (scope.names.map (·.1)).Nodup)
    (hf : (scope.names.all fun x => !(x.2 == .free) || sc.names.lookup x.1 == some .cell) = true) : CompOk X scope := by
  subst hX
  refine ⟨hk, hn, fun x hx e => ?_⟩
  have := List.all_eq_true.mp hf x hx
  rw [e] at this
  have q : sc.names.lookup x.1 = some .cell := by simpa using this
  exact ⟨cellsFrom_some' q, .inl q⟩

/-! the table of the most -/
def mostAt (before now : List Int) (x : Int) (c : Nat) : Int := maxL ((now.drop c).take 1 ++ ((before.drop (c - 1)).take (c - (c - 1))).map (· + x))
def mostT (before now : List Int) (x : Int) : List Int := (List.range (max now.length (before.length + 1))).map (mostAt before now x)
def mostF (row : List Int) : List Int × List Int := row.foldl (fun st x => (st.2, mostT st.1 st.2 x)) ([0], [0])
end Mine
end
section
namespace Mine

def tot (l : List Nat) (f : Nat → Int) : Int := (l.map f).sum
theorem tot_nil (f : Nat → Int) : tot [] f = 0 := rfl
theorem tot_cons (x : Nat) (l : List Nat) (f : Nat → Int) : tot (x :: l) f = f x + tot l f := by simp [tot]
theorem tot_append (l r : List Nat) (f : Nat → Int) : tot (l ++ r) f = tot l f + tot r f := by simp [tot]
theorem tot_add (l : List Nat) (f h : Nat → Int) : tot l (fun i => f i + h i) = tot l f + tot l h := by
  induction l with
  | nil => rfl
  | cons x r ih => simp only [tot_cons, ih]; omega
theorem tot_congr {l : List Nat} {f h : Nat → Int} (e : ∀ i ∈ l, f i = h i) : tot l f = tot l h := by
  unfold tot; rw [List.map_congr_left e]
theorem tot_nonneg {l : List Nat} {f : Nat → Int} (e : ∀ i ∈ l, 0 ≤ f i) : 0 ≤ tot l f := by
  induction l with
  | nil => exact Int.le_refl _
  | cons x r ih => rw [tot_cons]; have := e x (.head _); have := ih fun i hi => e i (.tail _ hi); omega
theorem tot_zero {l : List Nat} {f : Nat → Int} (e : ∀ i ∈ l, f i = 0) : tot l f = 0 := by
  rw [tot_congr e]
  induction l with
  | nil => rfl
  | cons x r ih => rw [tot_cons, ih fun i hi => e i (.tail _ hi)]; rfl
theorem tot_perm {l r : List Nat} (p : l.Perm r) (f : Nat → Int) : tot l f = tot r f := by
  induction p with
  | nil => rfl
  | cons x _ ih => simp only [tot_cons, ih]
  | swap x y l => simp only [tot_cons]; omega
  | trans _ _ a b => exact a.trans b
theorem tot_filter (l : List Nat) (p : Nat → Bool) (f : Nat → Int) : tot (l.filter p) f = tot l fun i => if p i = true then f i else 0 := by
  induction l with
  | nil => rfl
  | cons x r ih =>
    rw [List.filter_cons, tot_cons]
    split
    · rw [tot_cons, ih]
    · rw [ih]; omega

/-! Stoer and Wagner -/
section
variable (w : Nat → Nat → Int)
def keyO (o : List Nat) (x : Nat) : Int := tot o fun i => w x i
def crS (S : Nat → Bool) (o : List Nat) (x : Nat) : Int := tot o fun i => if S i ≠ S x then w x i else 0
def cutS (S : Nat → Bool) (o : List Nat) : Int := tot o fun i => tot o fun j => if S i = true ∧ S j = false then w i j else 0

inductive Gr (n : Nat) : List Nat → Prop
  | one (v : Nat) : Gr n [v]
  | snoc {o : List Nat} {v : Nat} : Gr n o → (∀ x, x ∉ o → x < n → keyO w o x ≤ keyO w o v) → v ∉ o → v < n → Gr n (o ++ [v])
end

section
variable {w : Nat → Nat → Int} {n : Nat} (sym : ∀ i j, w i j = w j i) (pos : ∀ i j, 0 ≤ w i j)
include sym
theorem cutS_snoc (S : Nat → Bool) (o : List Nat) (v : Nat) : cutS w S (o ++ [v]) = cutS w S o + crS w S o v := by
  unfold cutS crS
  rw [tot_append, tot_cons, tot_nil]
  have e1 : (tot o fun i => tot (o ++ [v]) fun j => if S i = true ∧ S j = false then w i j else 0) = (tot o fun i => tot o fun j => if S i = true ∧ S j = false then w i j else 0) + tot o fun i => if S i = true ∧ S v = false then w i v else 0 := by
    rw [← tot_add]
    refine tot_congr fun i _ => ?_
    rw [tot_append, tot_cons, tot_nil]; omega
  rw [e1, tot_append, tot_cons, tot_nil]
  cases hv : S v with
  | true =>
    have z1 : (tot o fun i => if S i = true ∧ true = false then w i v else 0) = 0 := tot_zero fun i _ => by simp
    rw [z1]
    have z2 : (tot o fun j => if true = true ∧ S j = false then w v j else 0) = tot o fun i => if S i ≠ true then w v i else 0 := tot_congr fun i _ => by cases S i <;> simp
    rw [z2]; simp
  | false =>
    have z1 : (tot o fun i => if S i = true ∧ false = false then w i v else 0) = tot o fun i => if S i ≠ false then w v i else 0 := tot_congr fun i _ => by cases S i <;> simp [sym i v]
    have z2 : (tot o fun j => if false = true ∧ S j = false then w v j else 0) = 0 := tot_zero fun i _ => by simp
    rw [z1, z2]; simp
include pos
omit sym in
theorem crS_nonneg (S : Nat → Bool) (o : List Nat) (x : Nat) : 0 ≤ crS w S o x := tot_nonneg fun i _ => by
  split
  · exact pos _ _
  · exact Int.le_refl _
theorem sw_key (S : Nat → Bool) {o : List Nat} (h : Gr w n o) : ∀ x, x ∉ o → x < n → (∃ l, o.getLast? = some l ∧ S x ≠ S l) → keyO w o x ≤ cutS w S o + crS w S o x := by
  induction h with
  | one v =>
    rintro x hx hn ⟨l, hl, hs⟩
    simp at hl; subst hl
    have c0 : cutS w S [v] = 0 := by unfold cutS; simp [tot]
    rw [c0]
    unfold keyO crS
    simp only [tot_cons, tot_nil]
    rw [if_pos (Ne.symm hs)]; omega
  | @snoc o v h hmax hv hvn ih =>
    rintro x hx hn ⟨l, hl, hs⟩
    simp at hl; subst hl
    rw [cutS_snoc sym]
    have hxo : x ∉ o := fun q => hx (by simp [q])
    have e1 : keyO w (o ++ [v]) x = keyO w o x + w x v := by unfold keyO; rw [tot_append, tot_cons, tot_nil]; omega
    have e2 : crS w S (o ++ [v]) x = crS w S o x + w x v := by unfold crS; rw [tot_append, tot_cons, tot_nil, if_pos (Ne.symm hs)]; omega
    have c1 := crS_nonneg pos S o v
    have c2 := crS_nonneg pos S o x
    have hne : o ≠ [] := by cases h <;> simp
    obtain ⟨l, hl⟩ : ∃ l, o.getLast? = some l := ⟨_, List.getLast?_eq_some_getLast hne⟩
    rw [e1, e2]
    by_cases hsl : S x = S l
    · have := ih v hv hvn ⟨l, hl, fun q => hs (by rw [q, hsl])⟩
      have := hmax x hxo hn
      omega
    · have := ih x hxo hn ⟨l, hl, hsl⟩
      omega
/-- the cut of a phase is the least that parts its last two -/
theorem sw_cut (S : Nat → Bool) {o : List Nat} {t : Nat} (h : Gr w n o) (ht : t ∉ o) (hn : t < n) {a : Nat} (ha : o.getLast? = some a) (hS : S t ≠ S a) : keyO w o t ≤ cutS w S (o ++ [t]) := by
  rw [cutS_snoc sym]
  exact sw_key sym pos S h t ht hn ⟨a, ha, hS⟩
end

/-- what a parting cuts, counted by its two sides -/
theorem cutS_sides {w : Nat → Nat → Int} {o here there : List Nat} {n : Nat} (ho : o.Perm (List.range n)) (hh : here.Nodup) (hl : ∀ k ∈ here, k < n) (et : there = (List.range n).filter fun k => !here.contains k) :
    cutS w (fun k => here.contains k) o = tot here fun i => tot there fun j => w i j := by
  have p : here.Perm ((List.range n).filter fun k => here.contains k) := by
    rw [List.perm_ext_iff_of_nodup hh (List.nodup_range.filter _)]
    intro a
    simp only [List.mem_filter, List.mem_range, List.contains_iff_mem]
    exact ⟨fun h => ⟨hl a h, h⟩, fun h => h.2⟩
  rw [tot_perm p, tot_filter]
  unfold cutS
  rw [tot_perm ho]
  refine tot_congr fun i _ => ?_
  rw [tot_perm ho, et, tot_filter]
  by_cases hi : here.contains i = true
  · rw [if_pos hi]
    refine tot_congr fun j _ => ?_
    show (if here.contains i = true ∧ here.contains j = false then w i j else 0) = _
    rw [hi]
    cases here.contains j <;> rfl
  · rw [if_neg hi]
    exact tot_zero fun j _ => if_neg fun q => hi q.1

/-! the heap of the phase -/
theorem raise_spec {x old : El} {l : List El} {p : Nat} (h : HF l 0) (hp : l[p]? = some old) (hx : Ge x old) : HF (sd x 0 p (l.set p x)) 0 ∧ (sd x 0 p (l.set p x)).Perm (l.set p x) := by
  have hlt := get_lt hp
  have ho : g l p = old := g_of hp
  have u : Up (l.set p x) 0 p x := by
    refine ⟨.zero _, by simpa using hlt, fun i hi h1 hs n1 n2 => ?_, fun c hc h1 e => ?_, fun c hc h1 e hn => ?_⟩
    · rw [List.length_set] at hi
      rw [g_set hlt, g_set hlt, if_neg n1, if_neg n2]
      exact h i hi h1 hs
    · rw [List.length_set] at hc
      rw [g_set hlt, if_neg (by omega)]
      have := h c hc h1 (Nat.zero_le _)
      rw [e, ho] at this
      exact hx.trans this
    · rw [List.length_set] at hc
      rw [g_set hlt, g_set hlt, if_neg (by omega), if_neg (by omega)]
      have a1 := h c hc h1 (Nat.zero_le _)
      have a2 := h p hlt (by omega) (Nat.zero_le _)
      rw [e] at a1
      exact a2.trans a1
  obtain ⟨a, b⟩ := sd_spec _ _ u
  refine ⟨a, b.trans ?_⟩
  rw [List.set_set]

/-- an entry of a heap that holds one entry for each of some is written anew -/
theorem set_perm {H : List El} {rs : List Nat} {f f' : Nat → El} {p k : Nat} (hp : H.Perm (rs.map f)) (hn : rs.Nodup) (hk : k ∈ rs) (hH : H[p]? = some (f k)) (hf : ∀ j ∈ rs, j ≠ k → f' j = f j) : (H.set p (f' k)).Perm (rs.map f') := by
  obtain ⟨A, B, rfl⟩ := List.append_of_mem hk
  rw [List.nodup_append] at hn
  obtain ⟨n1, n2, n3⟩ := hn
  have eA : A.map f' = A.map f := List.map_congr_left fun j hj => hf j (by simp [hj]) (n3 j hj k (by simp))
  have eB : B.map f' = B.map f := List.map_congr_left fun j hj => hf j (by simp [hj]) fun q => (List.nodup_cons.mp n2).1 (q ▸ hj)
  rw [List.perm_iff_count] at hp ⊢
  intro z
  have c1 := count_set' (l := H) (i := p) (get_lt hH) (f' k) z
  have c2 := hp z
  rw [g_of hH] at c1
  rw [List.map_append, List.map_cons, List.count_append, List.count_cons] at c2 ⊢
  rw [eA, eB]
  simp only [beq_iff_eq] at c2 ⊢
  omega

structure Ph (w : Nat → Nat → Int) (n : Nat) (H : List El) (o : List Nat) : Prop where
  heap : HF H 0
  ent : H.Perm (((List.range n).filter fun k => !o.contains k).map fun k => [keyO w o k, (k : Int)])
  gr : Gr w n o
  nd : o.Nodup
  lt : ∀ k ∈ o, k < n

theorem rest_mem {n k : Nat} {o : List Nat} : k ∈ (List.range n).filter (fun k => !o.contains k) ↔ k < n ∧ k ∉ o := by
  simp
theorem Ph.top {w : Nat → Nat → Int} {n : Nat} {H : List El} {o : List Nat} (P : Ph w n H o) (h : H ≠ []) : ∃ v : Nat, H[0]? = some [keyO w o v, (v : Int)] ∧ v < n ∧ v ∉ o ∧ ∀ k, k < n → k ∉ o → keyO w o k ≤ keyO w o v := by
  have h0 : 0 < H.length := List.length_pos_iff.mpr h
  have e0 : H[0]? = some (g H 0) := by unfold g; rw [List.getD_eq_getElem?_getD, List.getElem?_eq_getElem h0]; rfl
  obtain ⟨v, hv, ev⟩ := List.mem_map.mp (P.ent.mem_iff.mp (g_mem h0))
  obtain ⟨v1, v2⟩ := rest_mem.mp hv
  refine ⟨v, by rw [e0, ← ev], v1, v2, fun k hk hk2 => ?_⟩
  have := P.heap.top_mem (P.ent.mem_iff.mpr (List.mem_map.mpr ⟨k, rest_mem.mpr ⟨hk, hk2⟩, rfl⟩))
  rw [← ev] at this
  unfold Ge at this
  simp only [lexLt] at this
  by_cases q : keyO w o v = keyO w o k
  · omega
  · rw [if_neg q] at this
    have := of_decide_eq_false this
    omega

/-- while the keys are raised -/
structure Mid (w : Nat → Nat → Int) (n : Nat) (H : List El) (o : List Nat) (v : Nat) (done : List Nat) : Prop where
  heap : HF H 0
  ent : H.Perm (((List.range n).filter fun k => !(o ++ [v]).contains k).map fun k => if k ∈ done then [keyO w (o ++ [v]) k, (k : Int)] else [keyO w o k, (k : Int)])

theorem Ph.pop {w : Nat → Nat → Int} {n : Nat} {l : List El} {y : El} {o : List Nat} (P : Ph w n (l ++ [y]) o) {v : Nat} (hv : (l ++ [y])[0]? = some [keyO w o v, (v : Int)]) (hvn : v < n) (hvo : v ∉ o) (H' : List El) (hH' : (l = [] ∧ H' = []) ∨ (∃ x, l[0]? = some x ∧ H' = sup y 0 (l.set 0 y))) : Mid w n H' o v [] := by
  have key : HF H' 0 ∧ (([keyO w o v, (v : Int)] : El) :: H').Perm (l ++ [y]) := by
    rcases hH' with ⟨rfl, rfl⟩ | ⟨x, hx, rfl⟩
    · simp at hv
      subst hv
      exact ⟨fun i hi => by simp at hi, .refl _⟩
    · have hx' := hx
      rw [← List.getElem?_append_left (l₂ := [y]) (get_lt hx), hv] at hx'
      cases hx'
      exact pop_spec P.heap hx
  obtain ⟨s1, s2⟩ := key
  refine ⟨s1, ?_⟩
  have hmem : v ∈ (List.range n).filter (fun k => !o.contains k) := rest_mem.mpr ⟨hvn, hvo⟩
  have nd : ((List.range n).filter (fun k => !o.contains k)).Nodup := List.nodup_range.filter _
  have p2 := s2.trans P.ent
  have er : (List.range n).filter (fun k => !(o ++ [v]).contains k) = ((List.range n).filter (fun k => !o.contains k)).erase v := by
    rw [nd.erase_eq_filter, List.filter_filter]
    apply List.filter_congr
    intro k _
    by_cases q : k = v <;> by_cases z : k ∈ o <;> simp [q, z]
  rw [er]
  have p3 := (List.perm_cons_erase hmem).map fun k => ([keyO w o k, (k : Int)] : El)
  have p4 := p2.trans p3
  rw [List.map_cons, List.perm_cons] at p4
  have e2 : (((List.range n).filter (fun k => !o.contains k)).erase v).map (fun k => if k ∈ ([] : List Nat) then ([keyO w (o ++ [v]) k, (k : Int)] : El) else [keyO w o k, (k : Int)]) = (((List.range n).filter (fun k => !o.contains k)).erase v).map fun k => ([keyO w o k, (k : Int)] : El) := by
    apply List.map_congr_left; intro k _; simp
  rw [e2]
  exact p4

theorem Mid.raise {w : Nat → Nat → Int} (pos : ∀ i j, 0 ≤ w i j) {n : Nat} {H : List El} {o done : List Nat} {v k : Nat} (M : Mid w n H o v done) (hk : k < n) (hko : k ∉ o) (hkv : k ≠ v) (hkd : k ∉ done) :
    (∃ p : Nat, H[p]? = some [keyO w o k, (k : Int)]) ∧ ∀ (p : Nat) e, H[p]? = some e → e.getD 1 0 = (k : Int) → e = [keyO w o k, (k : Int)] ∧ Mid w n (sd [keyO w o k + w k v, (k : Int)] 0 p (H.set p [keyO w o k + w k v, (k : Int)])) o v (k :: done) := by
  have hmem : k ∈ (List.range n).filter (fun k => !(o ++ [v]).contains k) := rest_mem.mpr ⟨hk, by simp [hko, hkv]⟩
  have ek : keyO w (o ++ [v]) k = keyO w o k + w k v := by unfold keyO; rw [tot_append, tot_cons, tot_nil]; omega
  refine ⟨?_, fun p e he hek => ?_⟩
  · have : [keyO w o k, (k : Int)] ∈ H := M.ent.mem_iff.mpr (List.mem_map.mpr ⟨k, hmem, by rw [if_neg hkd]⟩)
    obtain ⟨p, hp, e⟩ := List.mem_iff_getElem.mp this
    exact ⟨p, by rw [List.getElem?_eq_getElem hp, e]⟩
  · obtain ⟨j, hj, ej⟩ := List.mem_map.mp (M.ent.mem_iff.mp (List.mem_of_getElem? he))
    have hjk : j = k := by
      rw [← ej] at hek
      split at hek <;> (simp at hek; omega)
    subst hjk
    rw [if_neg hkd] at ej
    refine ⟨ej.symm, ?_⟩
    subst ej
    obtain ⟨r1, r2⟩ := raise_spec (x := [keyO w o j + w j v, (j : Int)]) M.heap he (by
      unfold Ge
      simp only [lexLt]
      have := pos j v
      by_cases q : keyO w o j + w j v = keyO w o j
      · rw [if_pos q]; simp
      · rw [if_neg q, decide_eq_false_iff_not]; omega)
    refine ⟨r1, r2.trans ?_⟩
    have := set_perm (f' := fun k => if k ∈ j :: done then ([keyO w (o ++ [v]) k, (k : Int)] : El) else [keyO w o k, (k : Int)]) (p := p) M.ent (List.nodup_range.filter _) hmem (by simpa [hkd] using he) (fun i _ hi => by simp [hi])
    simpa [ek] using this

theorem Mid.fin {w : Nat → Nat → Int} {n : Nat} {H : List El} {o done : List Nat} {v : Nat} (M : Mid w n H o v done) (hd : ∀ k, k < n → k ∉ o → k ≠ v → k ∈ done) (gr : Gr w n o) (nd : o.Nodup) (lt : ∀ k ∈ o, k < n) (hv : v ∉ o) (hvn : v < n)
    (hmax : ∀ k, k < n → k ∉ o → keyO w o k ≤ keyO w o v) : Ph w n H (o ++ [v]) := by
  refine ⟨M.heap, ?_, .snoc gr (fun x hx hn => hmax x hn hx) hv hvn, ?_, ?_⟩
  · have e : (((List.range n).filter fun k => !(o ++ [v]).contains k).map fun k => if k ∈ done then ([keyO w (o ++ [v]) k, (k : Int)] : El) else [keyO w o k, (k : Int)]) = ((List.range n).filter fun k => !(o ++ [v]).contains k).map fun k => [keyO w (o ++ [v]) k, (k : Int)] := by
      apply List.map_congr_left
      intro k hk
      obtain ⟨h1, h2⟩ := rest_mem.mp hk
      simp at h2
      rw [if_pos (hd k h1 h2.1 h2.2)]
    rw [← e]; exact M.ent
  · rw [List.nodup_append]
    exact ⟨nd, by simp, fun a ha b hb => by rw [List.mem_singleton] at hb; subst hb; exact fun q => hv (q ▸ ha)⟩
  · intro k hk
    rcases List.mem_append.mp hk with h | h
    · exact lt k h
    · rw [List.mem_singleton] at h; subst h; exact hvn
theorem Ph.done {w : Nat → Nat → Int} {n : Nat} {o : List Nat} (P : Ph w n [] o) : o.Perm (List.range n) := by
  have h : (List.range n).filter (fun k => !o.contains k) = [] := by simpa using P.ent
  rw [List.perm_ext_iff_of_nodup P.nd List.nodup_range]
  intro a
  rw [List.mem_range]
  refine ⟨P.lt a, fun ha => ?_⟩
  by_cases q : a ∈ o
  · exact q
  · have : a ∈ (List.range n).filter (fun k => !o.contains k) := rest_mem.mpr ⟨ha, q⟩
    rw [h] at this; cases this
end Mine
end
section
open PySem PySem.W PyProof.Rows PySem.Calls
set_option maxRecDepth 100000
namespace Mine
local macro_rules | `(tactic| walk_at "loc") => `(tactic| first | assumption | with_reducible exact loc_hit | (with_reducible refine loc_put ?_; walk_at "loc") | (with_reducible refine loc_miss ?_ ?_; (· decide); walk_at "loc") | rfl)
local macro_rules | `(tactic| walk_at "mem") => `(tactic| first | assumption | with_reducible exact mem_hit | (with_reducible refine mem_set ?_; walk_at "mem") | (with_reducible refine mem_miss ?_ ?_; (· assumption); walk_at "mem") | rfl)
local macro_rules | `(tactic| walk_at "name") => `(tactic| refine AE_name ‹Cx.Ok _ _› (by walk_at "loc") ?_)
local macro_rules | `(tactic| walk_at "kind") => `(tactic| first | exact ⟨by decide, Or.inl (by rfl)⟩ | exact ⟨by decide, Or.inr ⟨by rfl, _, by rfl, by decide⟩⟩)
local macro_rules | `(tactic| walk_at "asn") => `(tactic| refine AX_assign (by with_unfolding_all rfl) (by with_unfolding_all rfl) (by with_unfolding_all rfl) ?_)

abbrev d3 (i : Nat) : DefRec := recAt PySem.Challenge.pw_dp0038_03 i

theorem sd_walk3 {B : Base} {n : Nat} {σ : St} {a : Addr} {s p : Nat} {l : List El} {x : El} {Q : Val → St → Prop} (hm : σ.mem a = some (.list (l.map tv))) (hlen : l.length ≤ 1000) (hp : l[p]? = some x)
    (h : Q .none (σ.put a (.list ((sd x s p l).map tv)))) : CallD B n [Str.ofString "heap", Str.ofString "startpos", Str.ofString "pos"] (d3 2).body (d3 2).scope [.ref a, .int s, .int p] σ Q := by
  intro A L qual fa code ok
  generalize hX : (⟨B, A, fnFm L qual fa code (d3 2).scope, (d3 2).scope⟩ : Cx) = X at ok ⊢
  conv => arg 2; whnf
  refine AS_cons ?_
  walk_at "asn"
  refine AE_subN (by intro _ _; rfl) ?_
  walk_at "name"
  walk_at "name"
  have hpl := get_lt hp
  refine ⟨p, _, _, rfl, .ref hm, by omega, map_get hp, ?_⟩
  refine AG_name ok (Writes_fn hX (by decide) (by decide +kernel)) ?_
  refine AS_cons ?_
  refine T.mono (P := SdE a x (sd x s p l) σ) (AX_while (SdI a s x (sd x s p l) σ) ?_ p ⟨⟨l, hm, (sd_length _ _).symm, hpl, rfl⟩, by walk_at "loc", by walk_at "loc", by walk_at "loc", by walk_at "loc", fun _ _ => rfl⟩) ?_
  rotate_left
  · rintro fl σ2 ⟨rfl, ⟨q, l1, hm1, hq, hl1, hs, e4⟩, e1, e3, hf⟩
    rw [sd_length] at hl1
    refine AS_cons ?_
    walk_at "asn"
    walk_at "name"
    refine AG_itemN ?_
    walk_at "name"
    walk_at "name"
    refine ⟨a, _, q, rfl, rfl, hm1, by simpa using hq, by simp; omega, ?_⟩
    refine AS_nil ?_
    rw [map_set, hs]
    rw [back_put (σ := σ) (a := a) (by rw [hm]; rfl) mem_hit fun b hb _ => ?_]
    · exact h
    · rw [St.put_mem, if_neg hb]; exact hf b hb
  rintro q σ1 ⟨⟨l1, hm1, hlen1, hq, hres⟩, e1, e2, e3, e4, hf⟩
  have hll : l1.length = l.length := hlen1.trans (sd_length _ _)
  refine AT_cmp rfl ?_
  walk_at "name"
  walk_at "name"
  refine Cmp_gt ?_
  refine ⟨fun hc => ?_, fun hc => ?_⟩
  · have hc' : s < q := by simpa using hc
    have hpar : (q - 1) / 2 < l1.length := by omega
    obtain ⟨y, hy⟩ : ∃ y, l1[(q - 1) / 2]? = some y := ⟨_, List.getElem?_eq_getElem hpar⟩
    refine AS_cons ?_
    walk_at "asn"
    refine AE_bin ?_
    refine AE_bin ?_
    walk_at "name"
    refine AE_int ?_
    refine Op_sub ?_
    refine AE_int ?_
    refine Op_rshift (by decide) ?_
    have ep : ((q : Int) - 1).fdiv (2 ^ (1 : Int).toNat) = (((q - 1) / 2 : Nat) : Int) := by
      rw [show ((2 : Int) ^ (1 : Int).toNat) = 2 from rfl, Int.fdiv_eq_ediv_of_nonneg _ (by decide)]; omega
    rw [ep]
    refine AG_name ok (Writes_fn hX (by decide) (by decide +kernel)) ?_
    refine AS_cons ?_
    walk_at "asn"
    refine AE_subN (by intro _ _; rfl) ?_
    walk_at "name"
    walk_at "name"
    refine ⟨(q - 1) / 2, _, _, rfl, .ref hm1, by omega, map_get hy, ?_⟩
    refine AG_name ok (Writes_fn hX (by decide) (by decide +kernel)) ?_
    refine AS_cons ?_
    refine AX_if ?_
    refine AT_cmp rfl ?_
    walk_at "name"
    walk_at "name"
    refine Cmp_ltT ok ?_
    refine ⟨fun hl => ?_, fun hl => ?_⟩
    · refine AS_cons ?_
      walk_at "asn"
      walk_at "name"
      refine AG_itemN ?_
      walk_at "name"
      walk_at "name"
      refine ⟨a, _, q, rfl, rfl, hm1, by simpa using hq, by simp; omega, ?_⟩
      refine AS_cons ?_
      walk_at "asn"
      walk_at "name"
      refine AG_name ok (Writes_fn hX (by decide) (by decide +kernel)) ?_
      refine AS_cons ?_
      refine AX_continue ?_
      refine ⟨(q - 1) / 2, by omega, ⟨l1.set q y, ?_, by simpa using hlen1, by simpa using hpar, ?_⟩, by walk_at "loc", by walk_at "loc", by walk_at "loc", by walk_at "loc", fun b hb => ?_⟩
      · rw [← map_set]; exact mem_hit
      · rw [← hres, sd_up hc' hy hl]
      · show ((St.put _ a _).mem b) = _
        rw [St.put_mem, if_neg hb]; exact hf b hb
    · refine AS_nil ?_
      refine AS_cons ?_
      refine AX_break ?_
      exact ⟨rfl, ⟨q, l1, hm1, hq, hlen1, (sd_end hc' hy hl).symm.trans hres, by walk_at "loc"⟩, by walk_at "loc", by walk_at "loc", hf⟩
  · have hc' : ¬ s < q := by simpa using hc
    exact ⟨rfl, ⟨q, l1, hm1, hq, hlen1, (sd_stop hc').symm.trans hres, e4⟩, e1, e3, hf⟩

theorem mul_ok (a : Nat) (_h : a < 2 ^ 40) : IntMulOk 2 (a : Int) := .of_left (by decide)

theorem su_walk3 {B : Base} {n : Nat} {σ : St} {a : Addr} {p : Nat} {l : List El} {x : El} {Q : Val → St → Prop} {fa1 : Addr} {fd1 : FuncData} {o1 : Obj}
    (F : FnAt B (Str.ofString "_siftdown_max") [Str.ofString "heap", Str.ofString "startpos", Str.ofString "pos"] (d3 2).body (d3 2).scope fa1 fd1 o1) (hlenf : B.mg (Str.ofString "len") = none)
    (hm : σ.mem a = some (.list (l.map tv))) (hlen : l.length ≤ 1000) (hp : l[p]? = some x)
    (h : Q .none (σ.put a (.list ((sup x p l).map tv)))) : CallD B (n + 1) [Str.ofString "heap", Str.ofString "pos"] (d3 3).body (d3 3).scope [.ref a, .int p] σ Q := by
  intro A L qual fa code ok
  generalize hX : (⟨B, A, fnFm L qual fa code (d3 3).scope, (d3 3).scope⟩ : Cx) = X at ok ⊢
  have hpl := get_lt hp
  have hB : X.B = B := by rw [← hX]
  conv => arg 2; whnf
  refine AS_cons ?_
  walk_at "asn"
  refine AE_builtin ok (BName_fn hX hlenf (by decide) (by decide) (by rfl) (by rfl)) (by rfl) (by rfl) ?_
  refine AEs_cons (by rfl) ?_
  walk_at "name"
  refine AEs_nil ?_
  refine BC_len (.ref hm) (by simp; omega) ?_
  rw [List.length_map]
  refine AG_name ok (Writes_fn hX (by decide) (by decide +kernel)) ?_
  refine AS_cons ?_
  walk_at "asn"
  walk_at "name"
  refine AG_name ok (Writes_fn hX (by decide) (by decide +kernel)) ?_
  refine AS_cons ?_
  walk_at "asn"
  refine AE_subN (by intro _ _; rfl) ?_
  walk_at "name"
  walk_at "name"
  refine ⟨p, _, _, rfl, .ref hm, by omega, map_get hp, ?_⟩
  refine AG_name ok (Writes_fn hX (by decide) (by decide +kernel)) ?_
  refine AS_cons ?_
  walk_at "asn"
  refine AE_bin ?_
  refine AE_bin ?_
  refine AE_int ?_
  walk_at "name"
  refine Op_mul (mul_ok p (by omega)) ?_
  refine AE_int ?_
  refine Op_add ?_
  refine AG_name ok (Writes_fn hX (by decide) (by decide +kernel)) ?_
  refine AS_cons ?_
  have hsu := su_ok (x := x) _ p l rfl hpl
  refine T.mono (P := SuE a p x (su x p l) σ) (AX_while (SuI a p x (su x p l) l.length σ) ?_ (l.length - p) ⟨⟨p, l, hm, rfl, hpl, rfl, rfl, by walk_at "loc", by walk_at "loc"⟩, by walk_at "loc", by walk_at "loc", by walk_at "loc", by walk_at "loc", fun _ _ => rfl⟩) ?_
  · rintro k σ1 ⟨⟨q, l1, hm1, hl1, hq, rfl, hres, e5, e6⟩, e1, e2, e3, e4, hf⟩
    refine AT_cmp rfl ?_
    walk_at "name"
    walk_at "name"
    refine Cmp_lt ?_
    refine ⟨fun hc => ?_, fun hc => ?_⟩
    · have hc' : 2 * q + 1 < l1.length := by have := of_decide_eq_true hc; omega
      obtain ⟨y1, hy1⟩ : ∃ y, l1[2 * q + 1]? = some y := ⟨_, List.getElem?_eq_getElem hc'⟩
      refine AS_cons ?_
      walk_at "asn"
      refine AE_bin ?_
      walk_at "name"
      refine AE_int ?_
      refine Op_add ?_
      rw [show (((2 * q + 1 : Nat) : Int) + 1) = ((2 * q + 2 : Nat) : Int) from by omega]
      refine AG_name ok (Writes_fn hX (by decide) (by decide +kernel)) ?_
      refine AS_cons ?_
      -- the child that is taken
      refine T.mono (P := fun fl σ2 => fl = .next ∧ σ2.mem = σ1.mem ∧ σ2.loc (Str.ofString "childpos") = some (.int (suC q l1 : Nat)) ∧ σ2.loc (Str.ofString "heap") = some (.ref a) ∧ σ2.loc (Str.ofString "startpos") = some (.int p) ∧ σ2.loc (Str.ofString "newitem") = some (tv x) ∧ σ2.loc (Str.ofString "endpos") = some (.int l.length) ∧ σ2.loc (Str.ofString "pos") = some (.int q)) ?_ ?_
      · refine AX_if ?_
        refine AT_and ?_
        refine AT_cmp rfl ?_
        walk_at "name"
        walk_at "name"
        refine Cmp_lt ?_
        refine ⟨fun h2 => ?_, fun h2 => ?_⟩
        · have h2' : 2 * q + 2 < l1.length := by have := of_decide_eq_true h2; omega
          obtain ⟨y2, hy2⟩ : ∃ y, l1[2 * q + 2]? = some y := ⟨_, List.getElem?_eq_getElem h2'⟩
          refine AT_not ?_
          refine AT_cmp rfl ?_
          refine AE_subN (by intro _ _; rfl) ?_
          walk_at "name"
          walk_at "name"
          refine ⟨2 * q + 2, _, _, rfl, .ref hm1, by omega, map_get hy2, ?_⟩
          refine AE_subN (by intro _ _; rfl) ?_
          walk_at "name"
          walk_at "name"
          refine ⟨2 * q + 1, _, _, rfl, .ref hm1, by omega, map_get hy1, ?_⟩
          refine Cmp_ltT ok ?_
          refine ⟨fun h3 => ?_, fun h3 => ?_⟩
          · have ec : suC q l1 = 2 * q + 2 := by
              unfold suC; rw [if_pos ⟨h2', by rw [getD_of hy2, getD_of hy1]; simpa using h3⟩]
            refine AS_cons ?_
            walk_at "asn"
            walk_at "name"
            refine AG_name ok (Writes_fn hX (by decide) (by decide +kernel)) ?_
            refine AS_nil ⟨rfl, rfl, ?_, by walk_at "loc", by walk_at "loc", by walk_at "loc", by walk_at "loc", by walk_at "loc"⟩
            rw [ec]; exact loc_hit
          · have ec : suC q l1 = 2 * q + 1 := by
              unfold suC; rw [if_neg (fun z => by have := z.2; rw [getD_of hy2, getD_of hy1] at this; simp [this] at h3)]
            refine AS_nil ⟨rfl, rfl, ?_, by walk_at "loc", by walk_at "loc", by walk_at "loc", by walk_at "loc", by walk_at "loc"⟩
            rw [ec]; walk_at "loc"
        · have ec : suC q l1 = 2 * q + 1 := by
            unfold suC; rw [if_neg (fun z => by have := z.1; have := of_decide_eq_false h2; omega)]
          refine ⟨(fun z => nomatch z), fun _ => ?_⟩
          refine AS_nil ⟨rfl, rfl, ?_, by walk_at "loc", by walk_at "loc", by walk_at "loc", by walk_at "loc", by walk_at "loc"⟩
          rw [ec]; walk_at "loc"
      · rintro fl σ2 ⟨rfl, em, f1, f2, f3, f4, f5, f6⟩
        have hcl := suC_lt hc'
        obtain ⟨y, hy⟩ : ∃ y, l1[suC q l1]? = some y := ⟨_, List.getElem?_eq_getElem hcl.1⟩
        have hm2 : σ2.mem a = some (.list (l1.map tv)) := (congrFun em a).trans hm1
        refine AS_cons ?_
        walk_at "asn"
        refine AE_subN (by intro _ _; rfl) ?_
        walk_at "name"
        walk_at "name"
        refine ⟨suC q l1, _, _, rfl, .ref hm2, by omega, map_get hy, ?_⟩
        refine AG_itemN ?_
        walk_at "name"
        walk_at "name"
        refine ⟨a, _, q, rfl, rfl, hm2, by simp; omega, by simp; omega, ?_⟩
        refine AS_cons ?_
        walk_at "asn"
        walk_at "name"
        refine AG_name ok (Writes_fn hX (by decide) (by decide +kernel)) ?_
        refine AS_cons ?_
        walk_at "asn"
        refine AE_bin ?_
        refine AE_bin ?_
        refine AE_int ?_
        walk_at "name"
        refine Op_mul (mul_ok _ (by omega)) ?_
        refine AE_int ?_
        refine Op_add ?_
        refine AG_name ok (Writes_fn hX (by decide) (by decide +kernel)) ?_
        refine AS_nil ?_
        refine ⟨l.length - suC q l1, by omega, ⟨suC q l1, l1.set q y, ?_, by simpa using hl1, by omega, rfl, ?_, by walk_at "loc", by walk_at "loc"⟩, by walk_at "loc", by walk_at "loc", by walk_at "loc", by walk_at "loc", fun b hb => ?_⟩
        · rw [← map_set]; exact mem_hit
        · rw [← hres, su_step hc', getD_of hy]
        · show ((St.put _ a _).mem b) = _
          rw [St.put_mem, if_neg hb, em]; exact hf b hb
    · have hc' : ¬ 2 * q + 1 < l1.length := by have := of_decide_eq_false hc; omega
      rw [su_stop hc'] at hres
      exact ⟨rfl, by rw [← hres]; exact hm1, by rw [← hres]; exact e5, e1, e2, e3, hf⟩
  · rintro fl σ2 ⟨rfl, hm2, e5, e1, e2, e3, hf⟩
    refine AS_cons ?_
    walk_at "asn"
    walk_at "name"
    refine AG_itemN ?_
    walk_at "name"
    walk_at "name"
    refine ⟨a, _, _, rfl, rfl, hm2, by simp; omega, by simp; omega, ?_⟩
    rw [map_set]
    refine AS_cons ?_
    refine AX_expr (by rw [← hX]; rfl) (by with_unfolding_all rfl) ?_
    refine AE_call ok (hB ▸ F) (by rw [← hX]; rfl) (by decide) (by rfl) ?_
    refine AEs_cons (by rfl) ?_
    walk_at "name"
    refine AEs_cons (by rfl) ?_
    walk_at "name"
    refine AEs_cons (by rfl) ?_
    walk_at "name"
    refine AEs_nil ⟨rfl, ?_⟩
    refine sd_walk3 mem_hit (by simp; omega) (x := x) (by rw [List.getElem?_set_self]; omega) ?_
    refine AS_nil ?_
    rw [back_put (σ := σ) (a := a) (by rw [hm]; rfl) mem_hit fun b hb _ => ?_]
    · exact h
    · rw [St.put_mem, if_neg hb, St.put_mem, if_neg hb]; exact hf b hb

theorem hp_walk3 {B : Base} {n : Nat} {σ : St} {a : Addr} {l : List El} {y : El} {Q : Val → St → Prop} {fa1 : Addr} {fd1 : FuncData} {o1 : Obj} {fa2 : Addr} {fd2 : FuncData} {o2 : Obj}
    (F1 : FnAt B (Str.ofString "_siftdown_max") [Str.ofString "heap", Str.ofString "startpos", Str.ofString "pos"] (d3 2).body (d3 2).scope fa1 fd1 o1) (hlenf : B.mg (Str.ofString "len") = none)
    (F2 : FnAt B (Str.ofString "_siftup_max") [Str.ofString "heap", Str.ofString "pos"] (d3 3).body (d3 3).scope fa2 fd2 o2)
    (hm : σ.mem a = some (.list ((l ++ [y]).map tv))) (hlen : l.length < 1000)
    (h0 : l = [] → Q (tv y) (σ.put a (.list []))) (h1 : ∀ x, l[0]? = some x → Q (tv x) (σ.put a (.list ((sup y 0 (l.set 0 y)).map tv)))) :
    CallD B (n + 2) [Str.ofString "heap"] (d3 1).body (d3 1).scope [.ref a] σ Q := by
  intro A L qual fa code ok
  generalize hX : (⟨B, A, fnFm L qual fa code (d3 1).scope, (d3 1).scope⟩ : Cx) = X at ok ⊢
  have hB : X.B = B := by rw [← hX]
  conv => arg 2; whnf
  refine AS_cons ?_
  walk_at "asn"
  refine AE_pop ?_ (by rfl) (by with_unfolding_all rfl)
  walk_at "name"
  refine ⟨a, l.map tv, tv y, rfl, hm.trans (by simp), by simp; omega, ?_⟩
  refine AG_name ok (Writes_fn hX (by decide) (by decide +kernel)) ?_
  refine AS_cons ?_
  refine AX_if ?_
  refine AT_val ?_ (by intro _; rfl)
  walk_at "name"
  refine Tru_list (.ref (by walk_at "mem")) (by simp; omega) ?_
  refine ⟨fun hc => ?_, fun hc => ?_⟩
  · have hl : l ≠ [] := by simpa using hc
    obtain ⟨x, hx⟩ : ∃ x, l[0]? = some x := by
      cases l with
      | nil => exact absurd rfl hl
      | cons x r => exact ⟨x, rfl⟩
    have hxl := get_lt hx
    refine AS_cons ?_
    walk_at "asn"
    refine AE_subN (by intro _ _; rfl) ?_
    walk_at "name"
    refine AE_int ?_
    refine ⟨0, _, _, rfl, .ref (by walk_at "mem"), by omega, map_get hx, ?_⟩
    refine AG_name ok (Writes_fn hX (by decide) (by decide +kernel)) ?_
    refine AS_cons ?_
    walk_at "asn"
    walk_at "name"
    refine AG_itemN ?_
    walk_at "name"
    refine AE_int ?_
    refine ⟨a, _, 0, rfl, rfl, by walk_at "mem", by simp; omega, by simp; omega, ?_⟩
    rw [map_set]
    refine AS_cons ?_
    refine AX_expr (by rw [← hX]; rfl) (by with_unfolding_all rfl) ?_
    refine AE_call ok (hB ▸ F2) (by rw [← hX]; rfl) (by decide) (by rfl) ?_
    refine AEs_cons (by rfl) ?_
    walk_at "name"
    refine AEs_cons (by rfl) ?_
    refine AE_int ?_
    refine AEs_nil ⟨rfl, ?_⟩
    refine su_walk3 (hB ▸ F1) (hB ▸ hlenf) mem_hit (by simp; omega) (p := 0) (x := y) (by rw [List.getElem?_set_self hxl]) ?_
    refine AS_cons ?_
    refine AX_ret ?_
    walk_at "name"
    rw [back_put (σ := σ) (a := a) (by rw [hm]; rfl) mem_hit fun b hb _ => ?_]
    · exact h1 x hx
    · simp only [St.put_mem, St.set_mem, if_neg hb]; rfl
  · have hl : l = [] := by simpa using hc
    refine AS_nil ?_
    refine AS_cons ?_
    refine AX_ret ?_
    walk_at "name"
    rw [back_put (σ := σ) (a := a) (bx := .list []) (by rw [hm]; rfl) (by rw [St.set_mem, St.put_mem, if_pos rfl, hl]; rfl) fun b hb _ => ?_]
    · exact h0 hl
    · simp only [St.put_mem, St.set_mem, if_neg hb]; rfl
end Mine
end
section
open PySem PySem.W PyProof.Rows PySem.Calls
set_option maxRecDepth 100000
namespace Mine
local macro_rules | `(tactic| walk_at "loc") => `(tactic| first | assumption | with_reducible exact loc_hit | (with_reducible refine loc_put ?_; walk_at "loc") | (with_reducible refine loc_miss ?_ ?_; (· decide); walk_at "loc") | rfl)
local macro_rules | `(tactic| walk_at "mem") => `(tactic| first | assumption | with_reducible exact mem_hit | (with_reducible refine mem_set ?_; walk_at "mem") | (with_reducible refine mem_miss ?_ ?_; (· assumption); walk_at "mem") | rfl)
local macro_rules | `(tactic| walk_at "name") => `(tactic| refine AE_name ‹Cx.Ok _ _› (by walk_at "loc") ?_)
local macro_rules | `(tactic| walk_at "asn") => `(tactic| refine AX_assign (by with_unfolding_all rfl) (by with_unfolding_all rfl) (by with_unfolding_all rfl) ?_)
local macro_rules | `(tactic| walk_at "put") => `(tactic| refine AG_name ‹Cx.Ok _ _› (Writes_fn ‹_ = _› (by decide) (by decide +kernel)) ?_)

structure Free3 (B : Base) : Prop where
  len : B.mg (Str.ofString "len") = none
  max : B.mg (Str.ofString "max") = none
  min : B.mg (Str.ofString "min") = none
  sum : B.mg (Str.ofString "sum") = none
  abs : B.mg (Str.ofString "abs") = none
  range : B.mg (Str.ofString "range") = none
  enumerate : B.mg (Str.ofString "enumerate") = none

def zs (l : List Nat) : List Int := l.map fun (k : Nat) => (k : Int)
abbrev nv (l : List Nat) : List Val := (zs l).map Val.int
theorem nv_eq (l : List Nat) : nv l = l.map fun (k : Nat) => Val.int (k : Int) := by unfold nv zs; rw [List.map_map]; rfl
abbrev mv (M : List (List Int)) : List Val := M.map fun r => Val.lst (r.map Val.int)
def wt (M : List (List Int)) (i j : Nat) : Int := (M.getD i []).getD j 0
/-- a square table -/
def Sq (M : List (List Int)) (n : Nat) : Prop := M.length = n ∧ ∀ r ∈ M, r.length = n
theorem mv_get {M : List (List Int)} {n i : Nat} (h : Sq M n) (hi : i < n) : (mv M)[i]? = some (.lst ((M.getD i []).map Val.int)) := by
  rw [List.getElem?_map, List.getD_eq_getElem?_getD, List.getElem?_eq_getElem (by rw [h.1]; exact hi)]; rfl
theorem row_len {M : List (List Int)} {n i : Nat} (h : Sq M n) (hi : i < n) : (M.getD i []).length = n := by
  rw [List.getD_eq_getElem?_getD, List.getElem?_eq_getElem (by rw [h.1]; exact hi)]
  exact h.2 _ (List.getElem_mem _)
theorem mv_get2 {M : List (List Int)} {n i j : Nat} (h : Sq M n) (hi : i < n) (hj : j < n) : ((M.getD i []).map Val.int)[j]? = some (.int (wt M i j)) := by
  have hl := row_len h hi
  rw [List.getElem?_map, List.getElem?_eq_getElem (by omega)]
  unfold wt
  rw [List.getD_eq_getElem?_getD (l := M.getD i []), List.getElem?_eq_getElem (by omega)]; rfl
theorem sum_two (here there : List Nat) (w : Nat → Nat → Int) : (here.flatMap fun i => there.map fun j => w i j).sum = tot here fun i => tot there fun j => w i j := by
  induction here with
  | nil => rfl
  | cons x r ih => rw [List.flatMap_cons, List.sum_append, ih, tot_cons]; rfl
theorem rangeV (n : Nat) : (rangeL 0 (n : Int) 1).map Val.int = nv (List.range n) := by
  rw [rangeL_1, nv_eq, List.map_map]
  simp
theorem nv_mem {l : List Nat} {V : Val} (h : V ∈ nv l) : ∃ k : Nat, k ∈ l ∧ V = .int (k : Int) := by
  rw [nv_eq] at h
  obtain ⟨k, hk, rfl⟩ := List.mem_map.mp h
  exact ⟨k, hk, rfl⟩
theorem nv_filter (l : List Nat) (p : Nat → Bool) (q : Val → Bool) (h : ∀ k ∈ l, q (.int (k : Int)) = p k) : (nv l).filter q = nv (l.filter p) := by
  rw [nv_eq, nv_eq, List.filter_map]
  congr 1
  exact List.filter_congr fun k hk => h k hk
theorem zs_mem {l : List Nat} {j : Nat} : (j : Int) ∈ zs l ↔ j ∈ l := by
  unfold zs
  rw [List.mem_map]
  constructor
  · rintro ⟨a, ha, e⟩
    have : a = j := by omega
    exact this ▸ ha
  · intro h; exact ⟨j, h, rfl⟩
theorem zs_len (l : List Nat) : (zs l).length = l.length := by simp [zs]

theorem ATs_one {X : Cx} {σ : St} {c : Expr} {Q : Bool → St → Prop} (h : AT X c σ Q) : ATs X [c] σ Q := T.mono h fun b σ1 q => ⟨fun e => by subst e; exact q, fun e => by subst e; exact q⟩

theorem small_nat (p : Nat) (h : p ≤ 100000) : Builtin.Range.small 0 (p : Int) 1 = true := small_1 (by omega) (by omega) (by omega) (by omega)

theorem str_ne {x y : Str} (h : x ≠ y) : (x == y) = false := by simpa using h
theorem flat_vals (here th : List Nat) (w : Nat → Nat → Int) : ((nv here).flatMap fun V => (nv th).map fun U => Val.int (w V.toInt.toNat U.toInt.toNat)) = (here.flatMap fun i => th.map fun j => w i j).map Val.int := by
  induction here with
  | nil => rfl
  | cons x r ih =>
    rw [show nv (x :: r) = Val.int (x : Int) :: nv r from rfl, List.flatMap_cons, ih, List.flatMap_cons, List.map_append, nv_eq, List.map_map, List.map_map]
    congr 1

/-! the least, by all partings -/
def othersOf (n a b : Nat) : List Nat := (List.range n).filter fun k => decide (k ≠ a) && decide (k ≠ b)
def pickOf (os : List Nat) (N : Nat) : List Nat := ((os.mapIdx fun i k => (i, k)).filter fun x => decide (N / 2 ^ x.1 % 2 = 1)).map (·.2)
def thereOf (n : Nat) (here : List Nat) : List Nat := (List.range n).filter fun k => !here.contains k
def cutOf (M : List (List Int)) (n a b N : Nat) : Int := tot (a :: pickOf (othersOf n a b) N) fun i => tot (thereOf n (a :: pickOf (othersOf n a b) N)) fun j => wt M i j
def leastOf (M : List (List Int)) (n a b : Nat) : Int := minL ((List.range (2 ^ (othersOf n a b).length)).map (cutOf M n a b))
theorem pick_mem {os : List Nat} {N k : Nat} (h : k ∈ pickOf os N) : k ∈ os := by
  obtain ⟨⟨i, k'⟩, h1, rfl⟩ := List.mem_map.mp h
  have := (List.mem_filter.mp h1).1
  obtain ⟨j, hj, e⟩ := List.mem_mapIdx.mp this
  cases e; exact List.getElem_mem _
theorem others_len (n a b : Nat) : (othersOf n a b).length ≤ n := by
  have := List.length_filter_le (fun k => decide (k ≠ a) && decide (k ≠ b)) (List.range n)
  simpa [othersOf] using this

theorem div_small : ∀ N : Nat, N < 64 → ∀ i : Nat, i < 6 → Builtin.divisionGoesByPylong (N : Int) ((2 : Int) ^ (i : Int).toNat) = false := by decide +kernel
theorem bit_eq (N i : Nat) : ((N : Int).fdiv ((2 : Int) ^ (i : Int).toNat)).fmod 2 = ((N / 2 ^ i % 2 : Nat) : Int) := by
  rw [Int.toNat_natCast, Int.fdiv_eq_ediv_of_nonneg _ (Int.le_of_lt (Int.pow_pos (by decide))), Int.fmod_eq_emod_of_nonneg _ (by decide)]
  norm_cast
def bitV (N : Nat) : Val → Bool
  | .tup [.int i, _] => decide (N / 2 ^ i.toNat % 2 = 1)
  | _ => false
def sndV : Val → Val
  | .tup [_, v] => v
  | v => v
theorem pick_vals (os : List Nat) (N : Nat) : (((nv os).mapIdx fun i v => Val.tup [.int i, v]).filter (bitV N)).map sndV = nv (pickOf os N) := by
  have e : ((nv os).mapIdx fun i v => Val.tup [.int i, v]) = (os.mapIdx fun i k => (i, k)).map fun x => Val.tup [.int (x.1 : Int), .int (x.2 : Int)] := by
    apply List.ext_getElem?
    intro i
    rw [nv_eq]
    simp only [List.getElem?_map, List.getElem?_mapIdx]
    cases os[i]? <;> rfl
  rw [e, List.filter_map, List.map_map, nv_eq]
  unfold pickOf
  rw [List.map_map]
  have e2 : (bitV N ∘ fun x : Nat × Nat => Val.tup [.int (x.1 : Int), .int (x.2 : Int)]) = fun x => decide (N / 2 ^ x.1 % 2 = 1) := by
    funext x
    show decide (N / 2 ^ (x.1 : Int).toNat % 2 = 1) = _
    rw [Int.toNat_natCast]
  rw [e2]
  rfl

structure LeI (M : List (List Int)) (n a b : Nat) (σ₀ : St) (T : Addr) (i : Nat) (σ : St) : Prop where
  told : σ.loc (Str.ofString "told") = some (.ref T)
  mem : σ.mem = (σ₀.put T (.list (((List.range i).map (cutOf M n a b)).map Val.int))).mem
  ties : σ.loc (Str.ofString "ties") = some (.lst (mv M))
  first : σ.loc (Str.ofString "a") = some (.int a)
  others : σ.loc (Str.ofString "others") = some (.lst (nv (othersOf n a b)))

theorem least_walk3 {B : Base} {N : Nat} {σ : St} {M : List (List Int)} {n a b : Nat} {Q : Val → St → Prop} (F : Free3 B) (hM : Sq M n) (hn : n ≤ 6) (ha : a < n) (h : Q (.int (leastOf M n a b)) σ) :
    CallD B N [Str.ofString "ties", Str.ofString "a", Str.ofString "b"] (d3 5).body (d3 5).scope [.lst (mv M), .int a, .int b] σ Q := by
  intro A L qual fa code ok
  generalize hX : (⟨B, A, fnFm L qual fa code (d3 5).scope, (d3 5).scope⟩ : Cx) = X at ok ⊢
  have hB : X.B = B := by rw [← hX]
  have hol := others_len n a b
  conv => arg 2; whnf
  refine AS_cons ?_
  refine AX_assign_comp ok (CompOk_fn hX rfl (by decide) (by decide +kernel)) (by intro _; rfl) (by rw [← hX]; with_unfolding_all rfl) (Writes_fn hX (by decide) (by decide +kernel)) ?_
  refine AI_range1 ok ⟨_, _, rfl⟩ (BName_fn hX F.range (by decide) (by decide) (by rfl) (by rfl)) (by rfl) ?_
  refine AE_builtin ok (BName_fn hX F.len (by decide) (by decide) (by rfl) (by rfl)) (by rfl) (by rfl) ?_
  refine AEs_cons (by rfl) ?_
  walk_at "name"
  refine AEs_nil ?_
  refine BC_len .lst (by rw [List.length_map, hM.1]; omega) ?_
  rw [List.length_map, hM.1]
  refine ⟨_, rfl, small_1 (by omega) (by omega) (by omega) (by omega), ?_⟩
  rw [rangeV]
  refine CompK_pure (fun V => decide (V.toInt ≠ (a : Int)) && decide (V.toInt ≠ (b : Int))) id (by simp [zs_len]; omega) (fun _ _ => trivial) ?_ ?_
  · intro C σ3 V okc hVm hmm hll
    obtain ⟨k, hk, rfl⟩ := nv_mem hVm
    refine AG_name okc (Writes_comp ok (by decide) (by rfl)) ?_
    refine ⟨⟨rfl, fun y hy => ?_⟩, ?_⟩
    · rw [St.set_loc, if_neg (fun q => by rw [q] at hy; revert hy; decide)]; exact hll y hy
    · have la : (σ3.set (Str.ofString "k") (.int (k : Int))).loc (Str.ofString "a") = some (.int a) := loc_miss (by decide) ((hll _ (by rfl)).trans (by rfl))
      have lb : (σ3.set (Str.ofString "k") (.int (k : Int))).loc (Str.ofString "b") = some (.int b) := loc_miss (by decide) ((hll _ (by rfl)).trans (by rfl))
      refine ATs_one ?_
      refine AT_and ?_
      refine AT_cmp rfl ?_
      refine AE_name okc loc_hit ?_
      refine AE_name okc la ?_
      refine Cmp_ne ?_
      refine ⟨fun h1 => ?_, fun h1 => ?_⟩
      · refine AT_cmp rfl ?_
        refine AE_name okc loc_hit ?_
        refine AE_name okc lb ?_
        refine Cmp_ne ?_
        refine ⟨rfl, ?_, fun _ => AE_name okc loc_hit ⟨rfl, rfl⟩⟩
        show _ = (decide ((k : Int) ≠ (a : Int)) && _)
        rw [h1, Bool.true_and]; rfl
      · refine ⟨rfl, ?_, fun q => nomatch q⟩
        show _ = (decide ((k : Int) ≠ (a : Int)) && _)
        rw [h1, Bool.false_and]
  refine .frozen ?_
  rw [List.map_id, nv_filter _ (fun k => decide (k ≠ a) && decide (k ≠ b)) _ (fun k _ => by
    show (decide ((k : Int) ≠ (a : Int)) && decide ((k : Int) ≠ (b : Int))) = _
    congr 1
    · exact decide_eq_decide.mpr (by omega)
    · exact decide_eq_decide.mpr (by omega))]
  rw [show (List.range n).filter (fun k => decide (k ≠ a) && decide (k ≠ b)) = othersOf n a b from rfl]
  refine AS_cons ?_
  walk_at "asn"
  refine AE_list ?_
  refine AEs_nil ⟨by simp, .tracked fun T hT => ?_⟩
  refine AG_name ok (Writes_fn hX (by decide) (by decide +kernel)) ?_
  refine AS_cons ?_
  refine Mine.T.mono (P := fun fl σ2 => fl = .next ∧ LeI M n a b σ T (2 ^ (othersOf n a b).length) σ2) ?_ ?_
  · refine AX_for ok (by intro _; rfl) ?_
    refine AI_range1 ok ⟨_, _, rfl⟩ (BName_fn hX F.range (by decide) (by decide) (by rfl) (by rfl)) (by rfl) ?_
    refine AE_bin ?_
    refine AE_int ?_
    refine AE_builtin ok (BName_fn hX F.len (by decide) (by decide) (by rfl) (by rfl)) (by rfl) (by rfl) ?_
    refine AEs_cons (by rfl) ?_
    walk_at "name"
    refine AEs_nil ?_
    refine BC_len .lst (by rw [List.length_map, zs_len]; omega) ?_
    rw [List.length_map, zs_len]
    refine Op_pow (by omega) (by omega) (by decide) ?_
    have hpw : ((2 : Int) ^ ((othersOf n a b).length : Int).toNat) = ((2 ^ (othersOf n a b).length : Nat) : Int) := by
      rw [Int.toNat_natCast]; norm_cast
    have hp6 : 2 ^ (othersOf n a b).length ≤ 64 := Nat.le_trans (Nat.pow_le_pow_right (by decide) (Nat.le_trans hol hn)) (by decide)
    rw [hpw]
    refine ⟨_, rfl, small_nat _ (Nat.le_trans hp6 (by decide)), ?_⟩
    rw [rangeV]
    refine ForL_inv (LeI M n a b σ T) ?_ ?_ ⟨by walk_at "loc", rfl, by walk_at "loc", by walk_at "loc", by walk_at "loc"⟩
    · intro i σ2 V hV hI
      obtain ⟨k1, hm2, k3, k4, k5⟩ := hI
      have hi : i < 2 ^ (othersOf n a b).length := by simpa [zs_len] using (List.getElem?_eq_some_iff.mp hV).1
      obtain rfl : V = .int (i : Int) := by
        rw [nv_eq, List.getElem?_map, List.getElem?_range hi] at hV
        simpa using hV.symm
      refine AG_name ok (Writes_fn hX (by decide) (by decide +kernel)) ?_
      refine AS_cons ?_
      walk_at "asn"
      refine AE_bin ?_
      refine AE_list ?_
      refine AEs_cons (by rfl) ?_
      walk_at "name"
      refine AEs_nil ⟨by simp, .frozen ?_⟩
      refine AE_comp ok (CompOk_fn hX rfl (by decide) (by decide +kernel)) (by intro _; rfl) ?_
      refine AI_enum ok ⟨_, _, _, rfl⟩ (BName_fn hX F.enumerate (by decide) (by decide) (by rfl) (by rfl)) (by rfl) ?_
      walk_at "name"
      refine ⟨_, .lst, ?_⟩
      refine CompK_pure (bitV i) sndV (by simp [zs_len]; omega) (fun _ _ => .lst) ?_ ?_
      · intro C σ3 V okc hVm hmm hll
        obtain ⟨at', hat, rfl⟩ := List.mem_mapIdx.mp hVm
        have hat' : at' < (othersOf n a b).length := by simpa [zs_len] using hat
        have ev : (nv (othersOf n a b))[at'] = .int (((othersOf n a b)[at'] : Nat) : Int) := by simp [zs]
        rw [ev]
        refine AG_tuple okc (by intro t ht e p q; simp at ht; rcases ht with rfl | rfl <;> cases q) rfl ?_
        show AG _ _ _ _ _
        refine AG_name okc (Writes_comp ok (by decide) (by rfl)) ?_
        show AG _ _ _ _ _
        refine AG_name okc (Writes_comp ok (by decide) (by rfl)) ?_
        refine ⟨⟨rfl, fun y hy => ?_⟩, ?_⟩
        · rw [St.set_loc, if_neg (fun q => by rw [q] at hy; revert hy; decide), St.set_loc, if_neg (fun q => by rw [q] at hy; revert hy; decide)]; exact hll y hy
        · refine ATs_one ?_
          refine AT_cmp rfl ?_
          refine AE_bin ?_
          refine AE_bin ?_
          refine AE_name okc (V := .int (i : Int)) (loc_miss (by decide) (loc_miss (by decide) ((hll _ (by rfl)).trans (by walk_at "loc")))) ?_
          refine AE_bin ?_
          refine AE_int ?_
          refine AE_name okc (V := .int (at' : Int)) (loc_miss (by decide) loc_hit) ?_
          refine Op_pow (by omega) (by omega) (by decide) ?_
          refine Op_div (Int.ne_of_gt (Int.pow_pos (by decide))) (div_small i (by omega) at' (by omega)) ?_
          refine AE_int ?_
          refine Op_mod (by decide) ?_
          rw [bit_eq]
          refine AE_int ?_
          refine Cmp_eq ?_
          refine ⟨rfl, ?_, fun _ => AE_name okc loc_hit ⟨rfl, rfl⟩⟩
          show _ = decide (i / 2 ^ (at' : Int).toNat % 2 = 1)
          rw [Int.toNat_natCast]
          exact decide_eq_decide.mpr (by omega)
      refine .frozen ?_
      rw [pick_vals]
      refine Op_addList .lst .lst (by have := List.length_filter_le (fun x : Nat × Nat => decide (i / 2 ^ x.1 % 2 = 1)) ((othersOf n a b).mapIdx fun i k => (i, k)); simp [zs_len, pickOf] at this ⊢; omega) (.frozen ?_)
      rw [show [Val.int (a : Int)] ++ nv (pickOf (othersOf n a b) i) = nv (a :: pickOf (othersOf n a b) i) from rfl]
      have hhere : ∀ k ∈ a :: pickOf (othersOf n a b) i, k < n := fun k hk => by
        rcases List.mem_cons.mp hk with e | e
        · omega
        · have := pick_mem e
          have := (List.mem_filter.mp this).1
          simpa using this
      have hlenh : (a :: pickOf (othersOf n a b) i).length ≤ 7 := by
        have := List.length_filter_le (fun x : Nat × Nat => decide (i / 2 ^ x.1 % 2 = 1)) ((othersOf n a b).mapIdx fun i k => (i, k))
        simp [pickOf] at this ⊢; omega
      obtain ⟨here, ehere⟩ : ∃ here, here = a :: pickOf (othersOf n a b) i := ⟨_, rfl⟩
      have ecut : cutOf M n a b i = tot here fun i => tot (thereOf n here) fun j => wt M i j := by rw [ehere]; rfl
      rw [← ehere] at hhere hlenh ⊢
      have hthere : ∀ k ∈ thereOf n here, k < n := fun k hk => by simpa using (List.mem_filter.mp hk).1
      have hlent : (thereOf n here).length ≤ 6 := by
        have := List.length_filter_le (fun k => !here.contains k) (List.range n)
        simp [thereOf] at this ⊢; omega
      refine AG_name ok (Writes_fn hX (by decide) (by decide +kernel)) ?_
      refine AS_cons ?_
      refine AX_assign (by rw [← hX]; with_unfolding_all rfl) (by with_unfolding_all rfl) (by with_unfolding_all rfl) ?_
      refine AE_comp ok (CompOk_fn hX rfl (by decide) (by decide +kernel)) (by intro _; rfl) ?_
      refine AI_range1 ok ⟨_, _, rfl⟩ (BName_fn hX F.range (by decide) (by decide) (by rfl) (by rfl)) (by rfl) ?_
      refine AE_builtin ok (BName_fn hX F.len (by decide) (by decide) (by rfl) (by rfl)) (by rfl) (by rfl) ?_
      refine AEs_cons (by rfl) ?_
      walk_at "name"
      refine AEs_nil ?_
      refine BC_len .lst (by rw [List.length_map, hM.1]; omega) ?_
      rw [List.length_map, hM.1]
      refine ⟨_, rfl, small_1 (by omega) (by omega) (by omega) (by omega), ?_⟩
      rw [rangeV]
      refine CompK_pure (fun V => decide (V.toInt ∉ zs here)) id (by simp [zs_len]; omega) (fun _ _ => trivial) ?_ ?_
      · intro C σ3 V okc hVm hmm hll
        obtain ⟨k, hk, rfl⟩ := nv_mem hVm
        refine AG_name okc (Writes_comp ok (by decide) (by rfl)) ?_
        refine ⟨⟨rfl, fun y hy => ?_⟩, ?_⟩
        · rw [St.set_loc, if_neg (fun q => by rw [q] at hy; revert hy; decide)]; exact hll y hy
        · refine ATs_one ?_
          refine AT_cmp rfl ?_
          refine AE_name okc loc_hit ?_
          refine AE_name okc (V := .lst (nv here)) (loc_miss (by decide) ((hll _ (by rfl)).trans (by walk_at "loc"))) ?_
          refine Cmp_notin .lst ?_
          exact ⟨rfl, rfl, fun _ => AE_name okc loc_hit ⟨rfl, rfl⟩⟩
      refine .frozen ?_
      rw [List.map_id, nv_filter _ (fun k => !here.contains k) _ (fun k _ => by
        show decide ((k : Int) ∉ zs here) = _
        by_cases q : k ∈ here
        · simp [q, zs_mem.mpr q]
        · have := mt zs_mem.mp q
          simp [q, this])]
      rw [show (List.range n).filter (fun k => !here.contains k) = thereOf n here from rfl]
      refine AG_name ok (Writes_fn hX (by decide) (by decide +kernel)) ?_
      refine AS_cons ?_
      refine AX_expr (by rw [← hX]; rfl) (by with_unfolding_all rfl) ?_
      refine AE_append ?_ (by rfl) (by with_unfolding_all rfl)
      walk_at "name"
      refine ⟨T, _, rfl, (congrFun hm2 T).trans mem_hit, ?_⟩
      refine AE_builtin ok (BName_fn hX F.sum (by decide) (by decide) (by rfl) (by rfl)) (by rfl) (by rfl) ?_
      refine AEs_cons (by rfl) ?_
      refine AE_comp2 ok (CompOk_fn hX rfl (by decide) (by decide +kernel)) (by intro _; rfl) (by intro _ _; rfl) ?_
      refine AI_list (.inl ⟨_, _, rfl⟩) ?_
      walk_at "name"
      refine ⟨_, .lst, ?_⟩
      refine CompK2_pure (fun _ => nv (thereOf n here)) (fun V U => .int (wt M V.toInt.toNat U.toInt.toNat)) (fun y => (y == Str.ofString "j") = false) (fun y hy => str_ne fun q => by rw [q] at hy; revert hy; decide) ?_ (fun _ _ => .lst) ?_ ?_
      · have : ∀ l : List Nat, ((nv l).flatMap fun _ => nv (thereOf n here)).length = l.length * (thereOf n here).length := fun l => by
          induction l with
          | nil => simp [zs]
          | cons x r ih =>
            rw [show nv (x :: r) = Val.int (x : Int) :: nv r from rfl, List.flatMap_cons, List.length_append, ih, List.length_map, zs_len, List.length_cons, Nat.add_mul]; omega
        rw [this]
        exact Nat.le_trans (Nat.mul_le_mul hlenh hlent) (by decide)
      · intro C σ3 V okc hVm hmm hll
        obtain ⟨i1, hi1, rfl⟩ := nv_mem hVm
        have hi1' := hhere i1 hi1
        refine AG_name okc (Writes_comp ok (by decide) (by rfl)) ?_
        refine ⟨⟨rfl, fun y hy => ?_⟩, ?_⟩
        · rw [St.set_loc, if_neg (fun q => by rw [q] at hy; revert hy; decide)]; exact hll y hy
        · refine AI_list (.inl ⟨_, _, rfl⟩) ?_
          refine AE_name okc (V := .lst (nv (thereOf n here))) (loc_miss (by decide) ((hll _ (by rfl)).trans (by walk_at "loc"))) ?_
          refine ⟨_, .lst, rfl, rfl, fun _ _ => .lst, ?_⟩
          intro σ4 U hU hmm4 hll4
          obtain ⟨j1, hj1, rfl⟩ := nv_mem hU
          have hj1' := hthere j1 hj1
          refine AG_name okc (Writes_comp ok (by decide) (by rfl)) ?_
          refine ⟨⟨rfl, fun y hy => ?_⟩, ?_⟩
          · rw [St.set_loc, if_neg (by simpa using hy)]; exact hll4 y hy
          · refine AE_subN (by intro _ _; rfl) ?_
            refine AE_subN (by intro _ _; rfl) ?_
            refine AE_name okc (V := .lst (mv M)) (loc_miss (by decide) ((hll4 _ (by decide)).trans (loc_miss (by decide) ((hll _ (by rfl)).trans (by walk_at "loc"))))) ?_
            refine AE_name okc (V := .int (i1 : Int)) (loc_miss (by decide) ((hll4 _ (by decide)).trans loc_hit)) ?_
            refine ⟨i1, _, _, rfl, .lst, by omega, mv_get hM hi1', ?_⟩
            refine AE_name okc loc_hit ?_
            refine ⟨j1, _, _, rfl, .lst, by omega, mv_get2 hM hi1' hj1', ?_⟩
            refine ⟨rfl, ?_⟩
            show Val.int _ = Val.int (wt M (i1 : Int).toNat (j1 : Int).toNat)
            rw [Int.toNat_natCast, Int.toNat_natCast]
      refine .frozen ?_
      refine AEs_nil ?_
      rw [flat_vals]
      refine BC_sum ok .lst ?_
      rw [sum_two, ← ecut]
      refine ⟨_, (congrFun hm2 T).trans mem_hit, by simp; omega, ?_⟩
      refine AS_nil ⟨.inl rfl, trivial, by walk_at "loc", ?_, by walk_at "loc", by walk_at "loc", by walk_at "loc"⟩
      rw [show ((List.range i).map (cutOf M n a b)).map Val.int ++ [Val.int (cutOf M n a b i)] = ((List.range (i + 1)).map (cutOf M n a b)).map Val.int from by rw [List.range_succ]; simp]
      exact put_put hm2
    · intro σ2 hI
      refine ⟨rfl, ?_⟩
      rw [List.length_map, zs_len, List.length_range] at hI
      exact hI
  · rintro fl σ2 ⟨rfl, k1, hm2, k3, k4, k5⟩
    have hT0 : σ.mem T = none := hT
    refine AS_cons ?_
    refine AX_ret ?_
    refine AE_builtin ok (BName_fn hX F.min (by decide) (by decide) (by rfl) (by rfl)) (by rfl) (by rfl) ?_
    refine AEs_cons (by rfl) ?_
    walk_at "name"
    refine AEs_nil ?_
    refine BC_min ok (.ref ((congrFun hm2 T).trans mem_hit)) ?_ ?_
    · intro e
      have := congrArg List.length e
      have h1 : 1 ≤ 2 ^ (othersOf n a b).length := Nat.one_le_two_pow
      simp at this
    · rw [back_same fun b' hb => ?_]
      · exact h
      · obtain ⟨bx, e⟩ := Option.isSome_iff_exists.mp hb
        rw [e]; exact sub_mem hT0 hm2 b' bx e
end Mine
end
section
namespace Mine
theorem foldl_min : ∀ (r : List Int) (x : Int), r.foldl min x ≤ x ∧ (∀ y ∈ r, r.foldl min x ≤ y) ∧ (r.foldl min x = x ∨ r.foldl min x ∈ r)
  | [], x => by simp
  | y :: r, x => by
    obtain ⟨h1, h2, h3⟩ := foldl_min r (min x y)
    simp only [List.foldl_cons]
    refine ⟨by omega, fun z hz => ?_, ?_⟩
    · rcases List.mem_cons.mp hz with e | hz
      · omega
      · exact h2 z hz
    · rcases h3 with h3 | h3
      · rw [h3]
        by_cases q : y ≤ x
        · right; rw [Int.min_eq_right q]; exact .head _
        · left; omega
      · exact .inr (.tail _ h3)
theorem minL_le {l : List Int} {x : Int} (h : x ∈ l) : minL l ≤ x := by
  cases l with
  | nil => cases h
  | cons y r =>
    rcases List.mem_cons.mp h with e | h
    · subst e; exact (foldl_min r _).1
    · exact (foldl_min r y).2.1 x h
theorem minL_mem {l : List Int} (h : l ≠ []) : minL l ∈ l := by
  cases l with
  | nil => exact absurd rfl h
  | cons y r =>
    rcases (foldl_min r y).2.2 with e | e
    · show r.foldl min y ∈ _; rw [e]; exact .head _
    · exact .tail _ e
theorem foldl_max : ∀ (r : List Int) (x : Int), x ≤ r.foldl max x ∧ (∀ y ∈ r, y ≤ r.foldl max x) ∧ (r.foldl max x = x ∨ r.foldl max x ∈ r)
  | [], x => by simp
  | y :: r, x => by
    obtain ⟨h1, h2, h3⟩ := foldl_max r (max x y)
    simp only [List.foldl_cons]
    refine ⟨by omega, fun z hz => ?_, ?_⟩
    · rcases List.mem_cons.mp hz with e | hz
      · omega
      · exact h2 z hz
    · rcases h3 with h3 | h3
      · rw [h3]
        by_cases q : x ≤ y
        · right; rw [Int.max_eq_right q]; exact .head _
        · left; omega
      · exact .inr (.tail _ h3)
theorem maxL_ge {l : List Int} {x : Int} (h : x ∈ l) : x ≤ maxL l := by
  cases l with
  | nil => cases h
  | cons y r =>
    rcases List.mem_cons.mp h with e | h
    · subst e; exact (foldl_max r _).1
    · exact (foldl_max r y).2.1 x h
theorem maxL_mem {l : List Int} (h : l ≠ []) : maxL l ∈ l := by
  cases l with
  | nil => exact absurd rfl h
  | cons y r =>
    rcases (foldl_max r y).2.2 with e | e
    · show r.foldl max y ∈ _; rw [e]; exact .head _
    · exact .tail _ e

theorem pick_sub (os : List Nat) (N : Nat) : (pickOf os N).Sublist os := by
  have h := (List.filter_sublist (l := os.mapIdx fun i k => (i, k)) (p := fun x => decide (N / 2 ^ x.1 % 2 = 1))).map (·.2)
  have e : (os.mapIdx fun i k => (i, k)).map (·.2) = os := by
    apply List.ext_getElem?
    intro i
    rw [List.getElem?_map, List.getElem?_mapIdx]
    cases os[i]? <;> rfl
  rw [e] at h
  exact h
theorem ones : ∀ m : Nat, m ≤ 6 → ∀ i : Nat, i < m → (2 ^ m - 1) / 2 ^ i % 2 = 1 := by decide +kernel
theorem pick_all (os : List Nat) (h : os.length ≤ 6) : pickOf os (2 ^ os.length - 1) = os := by
  unfold pickOf
  rw [List.filter_eq_self.mpr]
  · apply List.ext_getElem?
    intro i
    rw [List.getElem?_map, List.getElem?_mapIdx]
    cases os[i]? <;> rfl
  · intro x hx
    obtain ⟨i, hi, rfl⟩ := List.mem_mapIdx.mp hx
    simpa using ones os.length h i hi

theorem least_eq {M : List (List Int)} {n a b : Nat} {o : List Nat} (sym : ∀ i j, wt M i j = wt M j i) (pos : ∀ i j, 0 ≤ wt M i j) (hn : n ≤ 6) (gr : Gr (wt M) n o) (hb : b ∉ o) (hbn : b < n) (hp : (o ++ [b]).Perm (List.range n)) (ha : o.getLast? = some a) :
    leastOf M n a b = keyO (wt M) o b := by
  have hao : a ∈ o := List.mem_of_getLast? ha
  have hlt : ∀ k ∈ o, k < n := fun k hk => by simpa using hp.mem_iff.mp (List.mem_append.mpr (.inl hk))
  have hmem : ∀ k, k < n → k ≠ b → k ∈ o := fun k hk hkb => by
    have := hp.mem_iff.mpr (List.mem_range.mpr hk)
    rcases List.mem_append.mp this with h | h
    · exact h
    · exact absurd (List.mem_singleton.mp h) hkb
  have hab : a ≠ b := fun e => hb (e ▸ hao)
  have hos : ∀ k, k ∈ othersOf n a b ↔ k < n ∧ k ≠ a ∧ k ≠ b := fun k => by simp [othersOf]
  have osnd : (othersOf n a b).Nodup := List.nodup_range.filter _
  have herend : ∀ N, (a :: pickOf (othersOf n a b) N).Nodup := fun N => by
    rw [List.nodup_cons]
    exact ⟨fun h => ((hos a).mp (pick_mem h)).2.1 rfl, (pick_sub _ _).nodup osnd⟩
  have herelt : ∀ N, ∀ k ∈ a :: pickOf (othersOf n a b) N, k < n := fun N k hk => by
    rcases List.mem_cons.mp hk with e | e
    · rw [e]; exact hlt a hao
    · exact ((hos k).mp (pick_mem e)).1
  have low : ∀ N, keyO (wt M) o b ≤ cutOf M n a b N := fun N => by
    have h := sw_cut sym pos (fun k => (a :: pickOf (othersOf n a b) N).contains k) gr hb hbn ha (by
      have h1 : (a :: pickOf (othersOf n a b) N).contains b = false := by
        rw [← Bool.not_eq_true, List.contains_iff_mem]
        intro h
        rcases List.mem_cons.mp h with e | e
        · exact hab e.symm
        · exact ((hos b).mp (pick_mem e)).2.2 rfl
      rw [h1]; simp)
    rw [cutS_sides hp (herend N) (herelt N) rfl] at h
    exact h
  have ol := others_len n a b
  have top : cutOf M n a b (2 ^ (othersOf n a b).length - 1) = keyO (wt M) o b := by
    unfold cutOf
    rw [pick_all _ (by omega)]
    have hh : ∀ k, k ∈ a :: othersOf n a b ↔ k < n ∧ k ≠ b := fun k => by
      rw [List.mem_cons, hos]
      constructor
      · rintro (e | e)
        · rw [e]; exact ⟨hlt a hao, hab⟩
        · exact ⟨e.1, e.2.2⟩
      · rintro ⟨h1, h2⟩
        by_cases e : k = a
        · exact .inl e
        · exact .inr ⟨h1, e, h2⟩
    have pt : (thereOf n (a :: othersOf n a b)).Perm [b] := by
      unfold thereOf
      rw [List.perm_ext_iff_of_nodup (List.nodup_range.filter _) (by simp)]
      intro k
      rw [rest_mem, hh, List.mem_singleton]
      constructor
      · rintro ⟨h1, h2⟩
        by_cases e : k = b
        · exact e
        · exact absurd ⟨h1, e⟩ h2
      · rintro rfl; exact ⟨hbn, fun h => h.2 rfl⟩
    have po : (a :: othersOf n a b).Perm o := by
      have nd2 : (o ++ [b]).Nodup := hp.nodup_iff.mpr List.nodup_range
      have nd1 := herend (2 ^ (othersOf n a b).length - 1)
      rw [pick_all _ (by omega)] at nd1
      rw [List.perm_ext_iff_of_nodup nd1 (List.nodup_append.mp nd2).1]
      intro k
      rw [hh]
      exact ⟨fun h => hmem k h.1 h.2, fun h => ⟨hlt k h, fun e => hb (e ▸ h)⟩⟩
    unfold keyO
    rw [tot_perm po]
    refine tot_congr fun i _ => ?_
    rw [tot_perm pt, tot_cons, tot_nil, sym i b]; omega
  unfold leastOf
  have hp1 : 1 ≤ 2 ^ (othersOf n a b).length := Nat.one_le_two_pow
  have h1 := minL_le (l := (List.range (2 ^ (othersOf n a b).length)).map (cutOf M n a b)) (x := keyO (wt M) o b) (List.mem_map.mpr ⟨2 ^ (othersOf n a b).length - 1, List.mem_range.mpr (by omega), top⟩)
  have h2 := minL_mem (l := (List.range (2 ^ (othersOf n a b).length)).map (cutOf M n a b)) (by
    intro e
    have := congrArg List.length e
    simp at this)
  obtain ⟨N, _, eN⟩ := List.mem_map.mp h2
  have := low N
  omega

/-! the table of the ties -/
def SymP (M : List (List Int)) (n : Nat) : Prop := Sq M n ∧ (∀ i j, wt M i j = wt M j i) ∧ ∀ i j, 0 ≤ wt M i j
def setM (M : List (List Int)) (i j : Nat) (v : Int) : List (List Int) := M.set i ((M.getD i []).set j v)
theorem setM_sq {M : List (List Int)} {n i j : Nat} {v : Int} (h : Sq M n) (hi : i < n) : Sq (setM M i j v) n := by
  refine ⟨by simp [setM, h.1], fun r hr => ?_⟩
  rcases List.mem_or_eq_of_mem_set hr with e | e
  · exact h.2 r e
  · rw [e, List.length_set]; exact row_len h hi
theorem wt_set {M : List (List Int)} {n i j : Nat} {v : Int} (h : Sq M n) (hi : i < n) (hj : j < n) (a b : Nat) : wt (setM M i j v) a b = if a = i ∧ b = j then v else wt M a b := by
  unfold wt setM
  rw [List.getD_eq_getElem?_getD (l := M.set i _), List.getElem?_set]
  by_cases ha : i = a
  · subst ha
    rw [if_pos rfl, if_pos (by rw [h.1]; exact hi)]
    have hl := row_len h hi
    rw [Option.getD_some, List.getD_eq_getElem?_getD, List.getElem?_set]
    by_cases hb : j = b
    · subst hb; rw [if_pos rfl, if_pos (by omega), if_pos ⟨rfl, rfl⟩]; rfl
    · have hb' : b ≠ j := fun e => hb e.symm
      simp [hb, hb']
  · have ha' : a ≠ i := fun e => ha e.symm
    rw [if_neg ha]
    simp [ha']
theorem SymP.two {M : List (List Int)} {n i j : Nat} {v : Int} (h : SymP M n) (hi : i < n) (hj : j < n) (hv : 0 ≤ v) : SymP (setM (setM M i j v) j i v) n := by
  have s1 := setM_sq (j := j) (v := v) h.1 hi
  have e : ∀ a b, wt (setM (setM M i j v) j i v) a b = if a = j ∧ b = i then v else if a = i ∧ b = j then v else wt M a b := fun a b => by
    rw [wt_set s1 hj hi, wt_set h.1 hi hj]
  refine ⟨setM_sq s1 hj, fun a b => ?_, fun a b => ?_⟩
  · rw [e, e, h.2.1 a b]
    by_cases c1 : a = j ∧ b = i <;> by_cases c2 : a = i ∧ b = j
    · simp [c1, c2]
    · have : b = i ∧ a = j := ⟨c1.2, c1.1⟩
      simp [c1, this]
    · have : b = j ∧ a = i := ⟨c2.2, c2.1⟩
      simp [c2, this]
    · have d1 : ¬ (b = j ∧ a = i) := fun q => c2 ⟨q.2, q.1⟩
      have d2 : ¬ (b = i ∧ a = j) := fun q => c1 ⟨q.2, q.1⟩
      simp [c1, c2, d1, d2]
  · rw [e]
    have := h.2.2 a b
    split
    · exact hv
    · split
      · exact hv
      · exact this
theorem SymP.zero (n : Nat) : SymP (List.replicate n (List.replicate n 0)) n := by
  have w0 : ∀ i j, wt (List.replicate n (List.replicate n 0)) i j = 0 := fun i j => by
    unfold wt
    rw [List.getD_eq_getElem?_getD (l := List.replicate n (List.replicate n 0)), List.getElem?_replicate]
    by_cases hi : i < n
    · rw [if_pos hi, Option.getD_some, List.getD_eq_getElem?_getD, List.getElem?_replicate]
      by_cases hj : j < n
      · rw [if_pos hj]; rfl
      · rw [if_neg hj]; rfl
    · rw [if_neg hi]; rfl
  refine ⟨⟨by simp, fun r hr => ?_⟩, fun i j => by rw [w0, w0], fun i j => by rw [w0]; exact Int.le_refl _⟩
  rw [(List.mem_replicate.mp hr).2]; simp
/-- the ties between parts -/
def tiesOf (M : List (List Int)) (parts : List (List Nat)) : List (List Int) := parts.map fun one => parts.map fun two => tot one fun i => tot two fun j => wt M i j
theorem tot_swap (l r : List Nat) (f : Nat → Nat → Int) : (tot l fun i => tot r fun j => f i j) = tot r fun j => tot l fun i => f i j := by
  induction l with
  | nil => exact (tot_zero fun _ _ => rfl).symm
  | cons x l ih =>
    rw [tot_cons, ih, ← tot_add]
    refine tot_congr fun j _ => ?_
    rw [tot_cons]
theorem ties_sym {M : List (List Int)} {n : Nat} (h : SymP M n) (parts : List (List Nat)) : SymP (tiesOf M parts) parts.length := by
  have sq : Sq (tiesOf M parts) parts.length := ⟨by simp [tiesOf], fun r hr => by
    obtain ⟨one, _, rfl⟩ := List.mem_map.mp hr
    simp⟩
  have e : ∀ i j, wt (tiesOf M parts) i j = (match parts[i]?, parts[j]? with | some one, some two => tot one fun i => tot two fun j => wt M i j | _, _ => 0) := fun i j => by
    show ((tiesOf M parts).getD i []).getD j 0 = _
    unfold tiesOf
    rw [List.getD_eq_getElem?_getD (l := parts.map _), List.getElem?_map]
    cases parts[i]? with
    | none => rfl
    | some one =>
      rw [Option.map_some, Option.getD_some, List.getD_eq_getElem?_getD, List.getElem?_map]
      cases parts[j]? with
      | none => rfl
      | some two => rfl
  refine ⟨sq, fun i j => ?_, fun i j => ?_⟩
  · rw [e, e]
    cases parts[i]? with
    | none => cases parts[j]? <;> rfl
    | some one =>
      cases parts[j]? with
      | none => rfl
      | some two =>
        show (tot one fun i => tot two fun j => wt M i j) = tot two fun i => tot one fun j => wt M i j
        rw [tot_swap]
        exact tot_congr fun j _ => tot_congr fun i _ => h.2.1 i j
  · rw [e]
    cases parts[i]? with
    | none => cases parts[j]? <;> exact Int.le_refl _
    | some one =>
      cases parts[j]? with
      | none => exact Int.le_refl _
      | some two => exact tot_nonneg fun i _ => tot_nonneg fun j _ => h.2.2 i j
end Mine
end
section
open PySem PySem.W PyProof.Rows PySem.Calls
set_option maxRecDepth 100000
namespace Mine
local macro_rules | `(tactic| walk_at "loc") => `(tactic| first | assumption | with_reducible exact loc_hit | (with_reducible refine loc_put ?_; walk_at "loc") | (with_reducible refine loc_miss ?_ ?_; (· decide); walk_at "loc") | rfl)
local macro_rules | `(tactic| walk_at "mem") => `(tactic| first | assumption | with_reducible exact mem_hit | (with_reducible refine mem_set ?_; walk_at "mem") | (with_reducible refine mem_miss ?_ ?_; (· assumption); walk_at "mem") | rfl)
local macro_rules | `(tactic| walk_at "name") => `(tactic| refine AE_name ‹Cx.Ok _ _› (by walk_at "loc") ?_)
local macro_rules | `(tactic| walk_at "asn") => `(tactic| refine AX_assign (by with_unfolding_all rfl) (by with_unfolding_all rfl) (by with_unfolding_all rfl) ?_)
local macro_rules | `(tactic| walk_at "put") => `(tactic| refine AG_name ‹Cx.Ok _ _› (Writes_fn ‹_ = _› (by decide) (by decide +kernel)) ?_)


structure Fns3 (B : Base) : Prop where
  pop : ∃ fa fd o, FnAt B (Str.ofString "_heappop_max") [Str.ofString "heap"] (d3 1).body (d3 1).scope fa fd o
  down : ∃ fa fd o, FnAt B (Str.ofString "_siftdown_max") [Str.ofString "heap", Str.ofString "startpos", Str.ofString "pos"] (d3 2).body (d3 2).scope fa fd o
  up : ∃ fa fd o, FnAt B (Str.ofString "_siftup_max") [Str.ofString "heap", Str.ofString "pos"] (d3 3).body (d3 3).scope fa fd o
  least : ∃ fa fd o, FnAt B (Str.ofString "_law_least") [Str.ofString "ties", Str.ofString "a", Str.ofString "b"] (d3 5).body (d3 5).scope fa fd o

abbrev pv (ps : List (List Nat)) : List Val := ps.map fun p => Val.lst (nv p)
/-- the table of the ties is being written -/
structure TiI (ns : List Int) (odd : Bool) (D : Addr) (ts : List Addr) (σ : St) : Prop where
  mem : σ.mem D = some (.list (ts.map Val.ref))
  st : ∃ M : List (List Int), SymP M 6 ∧ ∀ (i : Nat) t, ts[i]? = some t → σ.mem t = some (.list ((M.getD i []).map Val.int))
  tie : σ.loc (Str.ofString "tie") = some (.ref D)
  script : σ.loc (Str.ofString "script") = some (.lst (ns.map Val.int))
  oddV : σ.loc (Str.ofString "odd") = some (.bool odd)
/-- between two phases -/
structure PaI (M : List (List Int)) (k : Nat) (σ : St) : Prop where
  st : ∃ ps : List (List Nat), 1 ≤ ps.length ∧ k = ps.length ∧ k ≤ 6 ∧ (∀ p ∈ ps, p.length ≤ 2 ^ (6 - ps.length) ∧ ∀ i ∈ p, i < 6) ∧ σ.loc (Str.ofString "parts") = some (.lst (pv ps))
  tie : σ.loc (Str.ofString "tie") = some (.lst (mv M))
  fair : σ.loc (Str.ofString "fair") = some (.bool true)

/-- the heap of a phase is made -/
structure HpI (w : Nat → Nat → Int) (h : Addr) (M : List (List Int)) (T : List (List Int)) (ps : List (List Nat)) (i : Nat) (σ : St) : Prop where
  st : ∃ H : List El, σ.mem h = some (.list (H.map tv)) ∧ HF H 0 ∧ H.Perm ((List.range i).map fun j => [w 0 (j + 1), ((j + 1 : Nat) : Int)])
  tie : σ.loc (Str.ofString "tie") = some (.lst (mv M))
  ties : σ.loc (Str.ofString "ties") = some (.lst (mv T))
  parts : σ.loc (Str.ofString "parts") = some (.lst (pv ps))
  heap : σ.loc (Str.ofString "heap") = some (.ref h)
  fair : σ.loc (Str.ofString "fair") = some (.bool true)
/-- a phase -/
structure PhI (h o : Addr) (M T : List (List Int)) (ps : List (List Nat)) (k : Nat) (σ : St) : Prop where
  st : ∃ (H : List El) (od : List Nat), Ph (wt T) ps.length H od ∧ k = H.length ∧ σ.mem h = some (.list (H.map tv)) ∧ σ.mem o = some (.list (nv od)) ∧
    (2 ≤ od.length → ∃ o' v, od = o' ++ [v] ∧ Gr (wt T) ps.length o' ∧ v ∉ o' ∧ v < ps.length ∧ σ.loc (Str.ofString "top") = some (.int (keyO (wt T) o' v)))
  tie : σ.loc (Str.ofString "tie") = some (.lst (mv M))
  ties : σ.loc (Str.ofString "ties") = some (.lst (mv T))
  parts : σ.loc (Str.ofString "parts") = some (.lst (pv ps))
  heap : σ.loc (Str.ofString "heap") = some (.ref h)
  order : σ.loc (Str.ofString "order") = some (.ref o)
  fair : σ.loc (Str.ofString "fair") = some (.bool true)
structure PhE (o : Addr) (M T : List (List Int)) (ps : List (List Nat)) (fl : Fl) (σ : St) : Prop where
  fl : fl = .next
  st : ∃ (o' : List Nat) (v : Nat), Gr (wt T) ps.length o' ∧ v ∉ o' ∧ v < ps.length ∧ (o' ++ [v]).Perm (List.range ps.length) ∧ σ.mem o = some (.list (nv (o' ++ [v]))) ∧ σ.loc (Str.ofString "top") = some (.int (keyO (wt T) o' v))
  tie : σ.loc (Str.ofString "tie") = some (.lst (mv M))
  ties : σ.loc (Str.ofString "ties") = some (.lst (mv T))
  parts : σ.loc (Str.ofString "parts") = some (.lst (pv ps))
  order : σ.loc (Str.ofString "order") = some (.ref o)
  fair : σ.loc (Str.ofString "fair") = some (.bool true)
/-- the keys are raised -/
structure RsI (h o : Addr) (M T : List (List Int)) (ps : List (List Nat)) (od : List Nat) (v N : Nat) (i : Nat) (σ : St) : Prop where
  st : ∃ (H : List El) (done : List Nat), Mid (wt T) ps.length H od v done ∧ H.length = N ∧ σ.mem h = some (.list (H.map tv)) ∧ σ.mem o = some (.list (nv (od ++ [v]))) ∧
    (∀ j, j ∈ done → ∃ a, a < i ∧ ((List.range ps.length).filter fun k => !od.contains k)[a]? = some j) ∧ (∀ a j, a < i → ((List.range ps.length).filter fun k => !od.contains k)[a]? = some j → j ≠ v → j ∈ done)
  tie : σ.loc (Str.ofString "tie") = some (.lst (mv M))
  ties : σ.loc (Str.ofString "ties") = some (.lst (mv T))
  parts : σ.loc (Str.ofString "parts") = some (.lst (pv ps))
  heap : σ.loc (Str.ofString "heap") = some (.ref h)
  order : σ.loc (Str.ofString "order") = some (.ref o)
  fair : σ.loc (Str.ofString "fair") = some (.bool true)
  top : σ.loc (Str.ofString "top") = some (.int (keyO (wt T) od v))
  new : σ.loc (Str.ofString "new") = some (.int (v : Int))

def pairs6 : List (Nat × Nat) := (List.range 6).flatMap fun j => (List.range j).map fun i => (i, j)
def pairV (x : Nat × Nat) : Val := .tup [.int (x.1 : Int), .int (x.2 : Int)]
theorem pairs_vals : ((nv (List.range 6)).flatMap fun V => (nv (List.range V.toInt.toNat)).map fun U => Val.tup [U, V]) = pairs6.map pairV := by rfl
theorem pairs_lt : ∀ x ∈ pairs6, x.1 < 6 ∧ x.2 < 6 ∧ x.1 ≠ x.2 := by decide

theorem pureInts (ns : List Int) : pureV 8 (.lst (ns.map Val.int)) := pureV_lst.mpr fun v hv => by
  obtain ⟨i, _, rfl⟩ := List.mem_map.mp hv
  exact pureV_int i
theorem pureT' {n : Nat} (x : El) : pureV (n + 1) (tv x) := pureV_tup.mpr fun v hv => by
  obtain ⟨i, _, rfl⟩ := List.mem_map.mp hv
  exact pureV_int i
theorem pureT (x : El) : pureV 8 (tv x) := pureT' x
theorem pureTs (l : List El) : pureV 8 (.lst (l.map tv)) := pureV_lst.mpr fun v hv => by
  obtain ⟨i, _, rfl⟩ := List.mem_map.mp hv
  exact pureT' i
def secOf : Val → Int
  | .tup [_, v] => v.toInt
  | _ => 0
theorem first_at {l : List Int} {k : Int} (h : k ∈ l) : ∃ j : Nat, l[j]? = some k ∧ ∀ m : Nat, m < j → l[m]? ≠ some k := by
  induction l with
  | nil => cases h
  | cons a r ih =>
    by_cases e : a = k
    · exact ⟨0, by simp [e], fun m hm => by omega⟩
    · have : k ∈ r := by
        rcases List.mem_cons.mp h with q | q
        · exact absurd q.symm e
        · exact q
      obtain ⟨j, h1, h2⟩ := ih this
      refine ⟨j + 1, by simpa using h1, fun m hm => ?_⟩
      cases m with
      | zero => simpa using e
      | succ m => simpa using h2 m (by omega)
def natsOf : Val → List Nat
  | .lst vs => vs.map fun v => v.toInt.toNat
  | _ => []
theorem nats_nv (l : List Nat) : natsOf (.lst (nv l)) = l := by
  show (nv l).map (fun v => v.toInt.toNat) = l
  rw [nv_eq, List.map_map]
  have : ((fun v : Val => v.toInt.toNat) ∘ fun k : Nat => Val.int (k : Int)) = id := by funext k; show (k : Int).toNat = k; simp
  rw [this, List.map_id]

set_option maxHeartbeats 4000000 in
theorem law_walk3 {B : Base} {n : Nat} {ns : List Int} (F : Free3 B) (N : Fns3 B) (hns : ns.length ≤ 63) :
    CallD B (n + 3) [Str.ofString "script"] (d3 6).body (d3 6).scope [.lst (ns.map Val.int)] noSt (fun V _ => V = .bool true) := by
  intro A L qual fa code ok
  generalize hX : (⟨B, A, fnFm L qual fa code (d3 6).scope, (d3 6).scope⟩ : Cx) = X at ok ⊢
  have hB : X.B = B := by rw [← hX]
  obtain ⟨fa1, fd1, o1, N1⟩ := N.pop
  obtain ⟨fa2, fd2, o2, N2⟩ := N.down
  obtain ⟨fa3, fd3, o3, N3⟩ := N.up
  obtain ⟨fa5, fd5, o5, N5⟩ := N.least
  conv => arg 2; whnf
  refine AS_cons ?_
  walk_at "asn"
  refine AE_cmp rfl ?_
  refine AE_bin ?_
  refine AE_builtin ok (BName_fn hX F.sum (by decide) (by decide) (by rfl) (by rfl)) (by rfl) (by rfl) ?_
  refine AEs_cons (by rfl) ?_
  walk_at "name"
  refine AEs_nil ?_
  refine BC_sum ok .lst ?_
  refine AE_int ?_
  refine Op_mod (by decide) ?_
  refine AE_int ?_
  refine Cmp_eq ?_
  generalize decide (ns.sum.fmod 2 = 1) = odd
  refine AG_name ok (Writes_fn hX (by decide) (by decide +kernel)) ?_
  refine AS_cons ?_
  refine AX_assign (by rw [← hX]; with_unfolding_all rfl) (by with_unfolding_all rfl) (by with_unfolding_all rfl) ?_
  refine AE_comp ok (CompOk_fn hX rfl (by decide) (by decide +kernel)) (by intro _; rfl) ?_
  refine AI_range1 ok ⟨_, _, rfl⟩ (BName_fn hX F.range (by decide) (by decide) (by rfl) (by rfl)) (by rfl) ?_
  refine AE_int ?_
  refine ⟨_, rfl, small_1 (by omega) (by omega) (by omega) (by omega), ?_⟩
  rw [show rangeL 0 6 1 = rangeL 0 ((6 : Nat) : Int) 1 from rfl, rangeV]
  refine CompK_refs (fun _ => (List.replicate 6 (0 : Int)).map Val.int) (by decide) (fun _ _ => trivial) ?_ ?_
  · intro C σ3 V okc hVm hmm hll
    refine AG_name okc (Writes_comp ok (by decide) (by rfl)) ?_
    refine ⟨⟨rfl, fun y hy => ?_⟩, ?_⟩
    · rw [St.set_loc, if_neg (fun q => by rw [q] at hy; revert hy; decide)]; exact hll y hy
    · refine AE_bin ?_
      refine AE_list ?_
      refine AEs_cons (by rfl) ?_
      refine AE_int ?_
      refine AEs_nil ⟨by simp, .frozen ?_⟩
      refine AE_int ?_
      refine Op_mulList (k := 6) .lst (by decide) (by decide) (.tracked fun t ht => ⟨t, rfl, ht, rfl⟩)
  intro D ts σ6 hD hlen hnd hDt ht2 eloc hsub hmD hts
  have hlen6 : ts.length = 6 := by rw [hlen]; rfl
  have l1 : σ6.loc (Str.ofString "script") = some (.lst (ns.map Val.int)) := by rw [eloc]; walk_at "loc"
  have l2 : σ6.loc (Str.ofString "odd") = some (.bool odd) := by rw [eloc]; walk_at "loc"
  have hts' : ∀ (i : Nat) t, ts[i]? = some t → σ6.mem t = some (.list (((List.replicate 6 (List.replicate 6 (0 : Int))).getD i []).map Val.int)) := fun i t ht => by
    have hi := (List.getElem?_eq_some_iff.mp ht).1
    have := hts i t _ ht (List.getElem?_eq_getElem (l := nv (List.range 6)) (by simpa [zs_len, hlen6] using hi))
    rw [this, List.getD_eq_getElem?_getD, List.getElem?_replicate, if_pos (by omega)]; rfl
  refine AG_name ok (Writes_fn hX (by decide) (by decide +kernel)) ?_
  refine AS_cons ?_
  refine Mine.T.mono (P := fun fl σ2 => fl = .next ∧ TiI ns odd D ts σ2) ?_ ?_
  · refine AX_for ok (by intro _; rfl) ?_
    refine AI_enum ok ⟨_, _, _, rfl⟩ (BName_fn hX F.enumerate (by decide) (by decide) (by rfl) (by rfl)) (by rfl) ?_
    refine AE_comp2 ok (CompOk_fn hX rfl (by decide) (by decide +kernel)) (by intro _; rfl) (by intro _ _; rfl) ?_
    refine AI_range1 ok ⟨_, _, rfl⟩ (BName_fn hX F.range (by decide) (by decide) (by rfl) (by rfl)) (by rfl) ?_
    refine AE_int ?_
    refine ⟨_, rfl, small_1 (by omega) (by omega) (by omega) (by omega), ?_⟩
    rw [show rangeL 0 6 1 = rangeL 0 ((6 : Nat) : Int) 1 from rfl, rangeV]
    refine CompK2_pure (fun V => nv (List.range V.toInt.toNat)) (fun V U => .tup [U, V]) (fun y => (y == Str.ofString "i") = false) (fun y hy => str_ne fun q => by rw [q] at hy; revert hy; decide) (by decide) (fun _ _ => trivial) ?_ ?_
    · intro C σ3 V okc hVm hmm hll
      obtain ⟨j1, hj1, rfl⟩ := nv_mem hVm
      refine AG_name okc (Writes_comp ok (by decide) (by rfl)) ?_
      refine ⟨⟨rfl, fun y hy => ?_⟩, ?_⟩
      · rw [St.set_loc, if_neg (fun q => by rw [q] at hy; revert hy; decide)]; exact hll y hy
      · refine AI_range1 okc ⟨_, _, rfl⟩ (BName_comp ok (hB ▸ F.range) (by decide) (by decide) (by rfl) (by rfl)) (by rfl) ?_
        refine AE_name okc loc_hit ?_
        have hj6 : j1 < 6 := by simpa using hj1
        refine ⟨_, rfl, small_1 (by omega) (by omega) (by omega) (by omega), ?_⟩
        rw [rangeV]
        refine ⟨rfl, by show _ = nv (List.range (j1 : Int).toNat); rw [Int.toNat_natCast], fun _ _ => trivial, ?_⟩
        intro σ4 U hU hmm4 hll4
        obtain ⟨i1, hi1, rfl⟩ := nv_mem hU
        refine AG_name okc (Writes_comp ok (by decide) (by rfl)) ?_
        refine ⟨⟨rfl, fun y hy => ?_⟩, ?_⟩
        · rw [St.set_loc, if_neg (by simpa using hy)]; exact hll4 y hy
        · refine AE_tuple ?_
          refine AEs_cons (by rfl) ?_
          refine AE_name okc loc_hit ?_
          refine AEs_cons (by rfl) ?_
          refine AE_name okc (loc_miss (by decide) ((hll4 _ (by decide)).trans loc_hit)) ?_
          refine AEs_nil ⟨by simp, rfl, rfl⟩
    refine .frozen ?_
    rw [pairs_vals]
    refine ⟨_, .lst, ?_⟩
    refine ForL_inv (fun _ σ => TiI ns odd D ts σ) ?_ (fun σ h => ⟨rfl, h⟩) ⟨hmD, ⟨_, SymP.zero 6, hts'⟩, by walk_at "loc", by walk_at "loc", by walk_at "loc"⟩
    intro kk σ2 V hV hI
    have hkk : kk < pairs6.length := by simpa using (List.getElem?_eq_some_iff.mp hV).1
    obtain ⟨⟨i, j⟩, hij⟩ : ∃ x, pairs6[kk]? = some x := ⟨_, List.getElem?_eq_getElem hkk⟩
    obtain rfl : V = .tup [.int (kk : Int), .tup [.int (i : Int), .int (j : Int)]] := by
      rw [List.getElem?_mapIdx, List.getElem?_map, hij] at hV
      simpa [pairV] using hV.symm
    obtain ⟨hi, hj, hne⟩ := pairs_lt _ (List.mem_of_getElem? hij)
    obtain ⟨hmD2, ⟨M, hM, hts2⟩, e1, e2, e3⟩ := hI
    obtain ⟨ti, hti⟩ : ∃ t, ts[i]? = some t := ⟨_, List.getElem?_eq_getElem (by omega)⟩
    obtain ⟨tj, htj⟩ : ∃ t, ts[j]? = some t := ⟨_, List.getElem?_eq_getElem (by omega)⟩
    have inj : ∀ (a b : Nat) t, ts[a]? = some t → ts[b]? = some t → a = b := by
      intro a b t h1 h2
      have la := (List.getElem?_eq_some_iff.mp h1).1
      have lb := (List.getElem?_eq_some_iff.mp h2).1
      have e := (List.getElem?_eq_some_iff.mp h1).2.trans (List.getElem?_eq_some_iff.mp h2).2.symm
      have pw := List.pairwise_iff_getElem.mp hnd
      rcases Nat.lt_trichotomy a b with h | h | h
      · exact absurd e (pw a b la lb h)
      · exact h
      · exact absurd e.symm (pw b a lb la h)
    have hDi : D ≠ ti := fun q => hDt (q ▸ List.mem_of_getElem? hti)
    have hDj : D ≠ tj := fun q => hDt (q ▸ List.mem_of_getElem? htj)
    have hij' : ti ≠ tj := fun q => hne (inj i j ti hti (q ▸ htj))
    have lr : ∀ a, a < 6 → (M.getD a []).length = 6 := fun a ha => row_len hM.1 ha
    refine AG_tuple ok (by intro t ht e p q; simp at ht; rcases ht with rfl | rfl <;> cases q) rfl ?_
    show AG _ _ _ _ _
    refine AG_name ok (Writes_fn hX (by decide) (by decide +kernel)) ?_
    show AG _ _ _ _ _
    refine AG_tuple ok (by intro t ht e p q; simp at ht; rcases ht with rfl | rfl <;> cases q) rfl ?_
    show AG _ _ _ _ _
    refine AG_name ok (Writes_fn hX (by decide) (by decide +kernel)) ?_
    show AG _ _ _ _ _
    refine AG_name ok (Writes_fn hX (by decide) (by decide +kernel)) ?_
    show AS _ _ _ _
    refine AS_cons ?_
    walk_at "asn"
    refine AE_builtin ok (BName_fn hX F.sum (by decide) (by decide) (by rfl) (by rfl)) (by rfl) (by rfl) ?_
    refine AEs_cons (by rfl) ?_
    refine AE_slice (by intro _ _; exact ⟨_, rfl⟩) ?_
    walk_at "name"
    show AE _ _ _ _
    walk_at "name"
    refine ⟨_, rfl, ?_⟩
    show AE _ _ _ _
    refine AE_int ?_
    refine ⟨_, rfl, ?_⟩
    refine ⟨_, .lst, by simp; omega, by decide, .frozen ?_⟩
    rw [pick_ints]
    refine AEs_nil ?_
    refine BC_sum ok .lst ?_
    generalize (List.map Val.toInt (pickV (List.map Val.int ns) (some (kk : Int)) none (some 15))).sum = x
    refine AG_name ok (Writes_fn hX (by decide) (by decide +kernel)) ?_
    refine AS_cons ?_
    walk_at "asn"
    refine AE_bin ?_
    refine AE_bin ?_
    walk_at "name"
    refine AE_int ?_
    refine Op_mod (by decide) ?_
    refine Mine.T.mono (P := fun V σ' => σ' = ((((σ2.set (Str.ofString "k") (.int (kk : Int))).set (Str.ofString "i") (.int (i : Int))).set (Str.ofString "j") (.int (j : Int))).set (Str.ofString "x") (.int x)) ∧ ∃ y : Int, 0 ≤ y ∧ V = .int y) ?_ ?_
    · refine AE_ifexp ?_
      refine AT_val ?_ (by intro _; rfl)
      walk_at "name"
      refine Tru_bool ?_
      refine ⟨fun _ => ?_, fun _ => ?_⟩
      · refine AE_bin ?_
        walk_at "name"
        refine AE_int ?_
        refine Op_mod (by decide) ?_
        exact ⟨rfl, _, Int.fmod_nonneg_of_pos _ (by decide), rfl⟩
      · refine AE_builtin ok (BName_fn hX F.abs (by decide) (by decide) (by rfl) (by rfl)) (by rfl) (by rfl) ?_
        refine AEs_cons (by rfl) ?_
        walk_at "name"
        refine AEs_nil ?_
        refine BC_abs ?_
        exact ⟨rfl, _, by omega, rfl⟩
    rintro V σ' ⟨rfl, y, hy, rfl⟩
    refine Op_add ?_
    have hv0 : 0 ≤ (kk : Int).fmod 3 + y := by
      have := Int.fmod_nonneg_of_pos (kk : Int) (show (0 : Int) < 3 by decide)
      omega
    generalize (kk : Int).fmod 3 + y = v at hv0 ⊢
    have gts : ∀ (a : Nat) t, ts[a]? = some t → (ts.map Val.ref)[a]? = some (.ref t) := fun a t h => by rw [List.getElem?_map, h]; rfl
    refine AG_itemN ?_
    refine AE_subN (by intro _ _; rfl) ?_
    walk_at "name"
    walk_at "name"
    refine ⟨i, _, _, rfl, .ref hmD2, by omega, gts i ti hti, ?_⟩
    walk_at "name"
    refine ⟨ti, _, j, rfl, rfl, hts2 i ti hti, by rw [List.length_map, lr i hi]; exact hj, by rw [List.length_map, lr i hi]; decide, ?_⟩
    rw [← List.map_set]
    have hM1 := setM_sq (j := j) (v := v) hM.1 hi
    have r1 : (setM M i j v).getD i [] = (M.getD i []).set j v := by
      unfold setM
      rw [List.getD_eq_getElem?_getD (l := M.set i _), List.getElem?_set_self (by rw [hM.1.1]; exact hi)]; rfl
    have r2 : ∀ a, a ≠ i → (setM M i j v).getD a [] = M.getD a [] := fun a ha => by
      unfold setM
      rw [List.getD_eq_getElem?_getD (l := M.set i _), List.getElem?_set_ne (Ne.symm ha), ← List.getD_eq_getElem?_getD]
    rw [← r1]
    refine AS_cons ?_
    walk_at "asn"
    refine AE_subN (by intro _ _; rfl) ?_
    refine AE_subN (by intro _ _; rfl) ?_
    walk_at "name"
    walk_at "name"
    refine ⟨i, _, _, rfl, .ref (mem_miss hDi hmD2), by omega, gts i ti hti, ?_⟩
    walk_at "name"
    refine ⟨j, _, _, rfl, .ref mem_hit, by omega, mv_get2 hM1 hi hj, ?_⟩
    rw [wt_set hM.1 hi hj, if_pos ⟨rfl, rfl⟩]
    refine AG_itemN ?_
    refine AE_subN (by intro _ _; rfl) ?_
    walk_at "name"
    walk_at "name"
    refine ⟨j, _, _, rfl, .ref (mem_miss hDi hmD2), by omega, gts j tj htj, ?_⟩
    walk_at "name"
    refine ⟨tj, _, i, rfl, rfl, mem_miss (Ne.symm hij') (hts2 j tj htj), by rw [List.length_map, lr j hj]; exact hi, by rw [List.length_map, lr j hj]; decide, ?_⟩
    rw [← List.map_set]
    refine AS_nil ⟨.inl rfl, .lst, mem_miss hDj (mem_miss hDi hmD2), ⟨_, hM.two hi hj hv0, fun a t ht => ?_⟩, by walk_at "loc", by walk_at "loc", by walk_at "loc"⟩
    have rj : (setM (setM M i j v) j i v).getD j [] = (M.getD j []).set i v := by
      unfold setM
      rw [List.getD_eq_getElem?_getD (l := List.set _ j _), List.getElem?_set_self (by simp [hM.1.1]; exact hj)]
      show ((M.set i _).getD j []).set i v = _
      rw [show (M.set i ((M.getD i []).set j v)).getD j [] = M.getD j [] from r2 j (Ne.symm hne)]
    have ra : ∀ a, a ≠ j → (setM (setM M i j v) j i v).getD a [] = (setM M i j v).getD a [] := fun a ha => by
      show (List.set (setM M i j v) j _).getD a [] = _
      rw [List.getD_eq_getElem?_getD, List.getElem?_set_ne (Ne.symm ha), ← List.getD_eq_getElem?_getD]
    by_cases c1 : a = j
    · subst c1
      rw [htj] at ht; cases ht
      rw [rj]; exact mem_hit
    · rw [ra a c1]
      have n1 : t ≠ tj := fun q => c1 (inj a j t ht (q ▸ htj))
      refine mem_miss n1 ?_
      by_cases c2 : a = i
      · subst c2
        rw [hti] at ht; cases ht
        exact mem_hit
      · have n2 : t ≠ ti := fun q => c2 (inj a i t ht (q ▸ hti))
        rw [r2 a c2]
        exact mem_miss n2 (hts2 a t ht)
  rintro fl σ2 ⟨rfl, hmD2, ⟨M, hM, hts2⟩, e1, e2, e3⟩
  refine AS_freeze2 e1 hmD2 (rows := M) (by rw [hlen6, hM.1.1]) (fun i t r h1 h2 => by rw [hts2 i t h1, List.getD_eq_getElem?_getD, h2]; rfl) ?_
  generalize hσ : (⟨_, _⟩ : St) = σ4
  have g1 : σ4.loc (Str.ofString "tie") = some (.lst (mv M)) := by rw [← hσ]; rfl
  clear hσ
  refine AS_cons ?_
  refine AX_assign (by rw [← hX]; with_unfolding_all rfl) (by with_unfolding_all rfl) (by with_unfolding_all rfl) ?_
  refine AE_comp ok (CompOk_fn hX rfl (by decide) (by decide +kernel)) (by intro _; rfl) ?_
  refine AI_range1 ok ⟨_, _, rfl⟩ (BName_fn hX F.range (by decide) (by decide) (by rfl) (by rfl)) (by rfl) ?_
  refine AE_int ?_
  refine ⟨_, rfl, small_1 (by omega) (by omega) (by omega) (by omega), ?_⟩
  refine CompK_pure (fun _ => true) (fun V => .lst [V]) (by decide) (fun _ _ => trivial) ?_ ?_
  · intro C σ3 V okc hVm hmm hll
    refine AG_name okc (Writes_comp ok (by decide) (by rfl)) ?_
    refine ⟨⟨rfl, fun y hy => ?_⟩, rfl, rfl, fun _ => ?_⟩
    · rw [St.set_loc, if_neg (fun q => by rw [q] at hy; revert hy; decide)]; exact hll y hy
    · refine AE_list ?_
      refine AEs_cons (by rfl) ?_
      refine AE_name okc loc_hit ?_
      refine AEs_nil ⟨by simp, .frozen ⟨rfl, rfl⟩⟩
  refine .frozen ?_
  rw [show (List.map (fun V => Val.lst [V]) (List.filter (fun _ => true) (List.map Val.int (rangeL 0 6 1)))) = pv [[0], [1], [2], [3], [4], [5]] from rfl]
  refine AG_name ok (Writes_fn hX (by decide) (by decide +kernel)) ?_
  refine AS_cons ?_
  walk_at "asn"
  refine AE_bool ?_
  refine AG_name ok (Writes_fn hX (by decide) (by decide +kernel)) ?_
  refine AS_cons ?_
  refine Mine.T.mono (P := fun fl σ2 => fl = .next ∧ σ2.loc (Str.ofString "fair") = some (.bool true)) (AX_while (PaI M) ?_ 6 ⟨⟨[[0], [1], [2], [3], [4], [5]], by decide, rfl, by decide, by decide, by walk_at "loc"⟩, by walk_at "loc", by walk_at "loc"⟩) ?_
  · rintro k σ5 ⟨⟨ps, hps1, rfl, hps6, hpl0, p1⟩, p2, p3⟩
    have hpl : ∀ p ∈ ps, p.length ≤ 100 ∧ ∀ i ∈ p, i < 6 := fun p hp => ⟨Nat.le_trans (hpl0 p hp).1 (Nat.le_trans (Nat.pow_le_pow_right (by decide) (Nat.sub_le 6 _)) (by decide)), (hpl0 p hp).2⟩
    refine AT_cmp rfl ?_
    refine AE_builtin ok (BName_fn hX F.len (by decide) (by decide) (by rfl) (by rfl)) (by rfl) (by rfl) ?_
    refine AEs_cons (by rfl) ?_
    walk_at "name"
    refine AEs_nil ?_
    refine BC_len .lst (by simp; omega) ?_
    refine AE_int ?_
    refine Cmp_gt ?_
    refine ⟨fun hc => ?_, fun hc => ⟨rfl, p3⟩⟩
    have hn2 : 2 ≤ ps.length := by
      have := of_decide_eq_true hc
      simp at this; omega
    have hT := ties_sym hM ps
    obtain ⟨T, eT⟩ : ∃ T, T = tiesOf M ps := ⟨_, rfl⟩
    rw [← eT] at hT
    refine AS_cons ?_
    refine AX_assign (by rw [← hX]; with_unfolding_all rfl) (by with_unfolding_all rfl) (by with_unfolding_all rfl) ?_
    refine AE_comp ok (CompOk_fn hX rfl (by decide) (by decide +kernel)) (by intro _; rfl) ?_
    refine AI_list (.inl ⟨_, _, rfl⟩) ?_
    walk_at "name"
    refine ⟨_, .lst, ?_⟩
    refine CompK_pure (fun _ => true) (fun V => .lst ((ps.map fun two => tot (natsOf V) fun i => tot two fun j => wt M i j).map Val.int)) (by simp; omega) (fun _ _ => .lst) ?_ ?_
    · intro C σ3 V okc hVm hmm hll
      obtain ⟨one, hone, rfl⟩ := List.mem_map.mp hVm
      obtain ⟨hone1, hone2⟩ := hpl one hone
      refine AG_name okc (Writes_compC ok (by decide) (by rfl)) ?_
      refine ⟨⟨rfl, fun y hy => ?_⟩, rfl, rfl, fun _ => ?_⟩
      · rw [St.set_loc, if_neg (fun q => by rw [q] at hy; revert hy; decide)]; exact hll y hy
      · refine AE_comp okc (CompOk_comp ok rfl (by decide) (by decide +kernel)) (by intro _; rfl) ?_
        refine AI_list (.inl ⟨_, _, rfl⟩) ?_
        refine AE_name okc (V := .lst (pv ps)) (loc_miss (by decide) ((hll _ (by rfl)).trans (by walk_at "loc"))) ?_
        refine ⟨_, .lst, ?_⟩
        refine CompK_pure (fun _ => true) (fun V => .int (tot one fun i => tot (natsOf V) fun j => wt M i j)) (by simp; omega) (fun _ _ => .lst) ?_ ?_
        · intro C2 σ6 V2 okc2 hVm2 hmm2 hll2
          obtain ⟨two, htwo, rfl⟩ := List.mem_map.mp hVm2
          obtain ⟨htwo1, htwo2⟩ := hpl two htwo
          refine AG_name okc2 (Writes_compC okc (by decide) (by rfl)) ?_
          refine ⟨⟨rfl, fun y hy => ?_⟩, rfl, rfl, fun _ => ?_⟩
          · rw [St.set_loc, if_neg (fun q => by rw [q] at hy; revert hy; decide)]; exact hll2 y hy
          · refine AE_builtin okc2 (BName_comp okc (hB ▸ F.sum) (by decide) (by decide) (by rfl) (by rfl)) (by rfl) (by rfl) ?_
            refine AEs_cons (by rfl) ?_
            refine AE_comp2 okc2 (CompOk_comp okc rfl (by decide) (by decide +kernel)) (by intro _; rfl) (by intro _ _; rfl) ?_
            refine AI_list (.inl ⟨_, _, rfl⟩) ?_
            refine AE_name okc2 (V := .lst (nv one)) (loc_miss (by decide) ((hll2 _ (by rfl)).trans loc_hit)) ?_
            refine ⟨_, .lst, ?_⟩
            refine CompK2_pure (fun _ => nv two) (fun V U => .int (wt M V.toInt.toNat U.toInt.toNat)) (fun y => (y == Str.ofString "j") = false) (fun y hy => str_ne fun q => by rw [q] at hy; revert hy; decide) ?_ (fun _ _ => .lst) ?_ ?_
            · have : ∀ l : List Nat, ((nv l).flatMap fun _ => nv two).length = l.length * two.length := fun l => by
                induction l with
                | nil => simp [zs]
                | cons x r ih =>
                  rw [show nv (x :: r) = Val.int (x : Int) :: nv r from rfl, List.flatMap_cons, List.length_append, ih, List.length_map, zs_len, List.length_cons, Nat.add_mul]; omega
              rw [this]
              exact Nat.le_trans (Nat.mul_le_mul hone1 htwo1) (by decide)
            · intro C3 σ7 V3 okc3 hVm3 hmm3 hll3
              obtain ⟨i1, hi1, rfl⟩ := nv_mem hVm3
              have hi1' := hone2 i1 hi1
              refine AG_name okc3 (Writes_comp okc2 (by decide) (by rfl)) ?_
              refine ⟨⟨rfl, fun y hy => ?_⟩, ?_⟩
              · rw [St.set_loc, if_neg (fun q => by rw [q] at hy; revert hy; decide)]; exact hll3 y hy
              · refine AI_list (.inl ⟨_, _, rfl⟩) ?_
                refine AE_name okc3 (V := .lst (nv two)) (loc_miss (by decide) ((hll3 _ (by rfl)).trans loc_hit)) ?_
                refine ⟨_, .lst, rfl, rfl, fun _ _ => .lst, ?_⟩
                intro σ8 U hU hmm4 hll4
                obtain ⟨j1, hj1, rfl⟩ := nv_mem hU
                have hj1' := htwo2 j1 hj1
                refine AG_name okc3 (Writes_comp okc2 (by decide) (by rfl)) ?_
                refine ⟨⟨rfl, fun y hy => ?_⟩, ?_⟩
                · rw [St.set_loc, if_neg (by simpa using hy)]; exact hll4 y hy
                · refine AE_subN (by intro _ _; rfl) ?_
                  refine AE_subN (by intro _ _; rfl) ?_
                  refine AE_name okc3 (V := .lst (mv M)) (loc_miss (by decide) ((hll4 _ (by decide)).trans (loc_miss (by decide) ((hll3 _ (by rfl)).trans (loc_miss (by decide) ((hll2 _ (by rfl)).trans (loc_miss (by decide) ((hll _ (by rfl)).trans (by walk_at "loc"))))))))) ?_
                  refine AE_name okc3 (V := .int (i1 : Int)) (loc_miss (by decide) ((hll4 _ (by decide)).trans loc_hit)) ?_
                  refine ⟨i1, _, _, rfl, .lst, by omega, mv_get hM.1 hi1', ?_⟩
                  refine AE_name okc3 loc_hit ?_
                  refine ⟨j1, _, _, rfl, .lst, by omega, mv_get2 hM.1 hi1' hj1', ?_⟩
                  refine ⟨rfl, ?_⟩
                  show Val.int _ = Val.int (wt M (i1 : Int).toNat (j1 : Int).toNat)
                  rw [Int.toNat_natCast, Int.toNat_natCast]
            refine .frozen ?_
            refine AEs_nil ?_
            rw [flat_vals]
            refine BC_sum okc2 .lst ?_
            rw [sum_two]
            exact ⟨rfl, by rw [nats_nv]⟩
        refine .frozen ⟨rfl, ?_⟩
        rw [List.filter_eq_self.mpr (by simp), nats_nv, List.map_map, List.map_map]
        congr 1
        apply List.map_congr_left
        intro two _
        show Val.int _ = Val.int _
        rw [nats_nv]
    refine .frozen ?_
    have eTv : List.map (fun V => Val.lst ((ps.map fun two => tot (natsOf V) fun i => tot two fun j => wt M i j).map Val.int)) (List.filter (fun _ => true) (pv ps)) = mv T := by
      rw [List.filter_eq_self.mpr (by simp), eT, tiesOf, List.map_map]
      show _ = List.map (fun r : List Int => Val.lst (r.map Val.int)) (List.map _ ps)
      rw [List.map_map]
      apply List.map_congr_left
      intro one _
      show Val.lst _ = Val.lst _
      rw [nats_nv]
    rw [eTv]
    refine AG_name ok (Writes_fn hX (by decide) (by decide +kernel)) ?_
    refine AS_cons ?_
    walk_at "asn"
    refine AE_list ?_
    refine AEs_nil ⟨by simp, .tracked fun h hh => ?_⟩
    refine AG_name ok (Writes_fn hX (by decide) (by decide +kernel)) ?_
    refine AS_cons ?_
    refine Mine.T.mono (P := fun fl σ2 => fl = .next ∧ HpI (wt T) h M T ps (ps.length - 1) σ2) ?_ ?_
    · refine AX_for ok (by intro _; rfl) ?_
      refine AI_range2 ok ⟨_, _, rfl⟩ (BName_fn hX F.range (by decide) (by decide) (by rfl) (by rfl)) (by rfl) (by rfl) ?_
      refine AE_int ?_
      refine AE_builtin ok (BName_fn hX F.len (by decide) (by decide) (by rfl) (by rfl)) (by rfl) (by rfl) ?_
      refine AEs_cons (by rfl) ?_
      walk_at "name"
      refine AEs_nil ?_
      refine BC_len .lst (by simp; omega) ?_
      rw [List.length_map]
      refine ⟨_, _, rfl, rfl, small_1 (by omega) (by omega) (by omega) (by omega), ?_⟩
      have er : (rangeL 1 (ps.length : Int) 1).map Val.int = (List.range (ps.length - 1)).map fun (j : Nat) => Val.int ((j + 1 : Nat) : Int) := by
        rw [rangeL_1, List.map_map, show ((ps.length : Int) - 1).toNat = ps.length - 1 from by omega]
        apply List.map_congr_left
        intro j _
        show Val.int (1 + (j : Int)) = Val.int ((j + 1 : Nat) : Int)
        congr 1; omega
      rw [er]
      refine ForL_inv (HpI (wt T) h M T ps) ?_ ?_ ⟨⟨[], mem_set mem_hit, fun i hi => by simp at hi, .refl _⟩, by walk_at "loc", by walk_at "loc", by walk_at "loc", by walk_at "loc", by walk_at "loc"⟩
      · intro i σ6 V hV hI
        obtain ⟨⟨H, q1, q2, q3⟩, q4, q5, q6, q7, q8⟩ := hI
        have hi : i < ps.length - 1 := by simpa using (List.getElem?_eq_some_iff.mp hV).1
        obtain rfl : V = .int ((i + 1 : Nat) : Int) := by
          rw [List.getElem?_map, List.getElem?_range hi] at hV
          simpa using hV.symm
        have hHl : H.length = i := by simpa using q3.length_eq
        refine AG_name ok (Writes_fn hX (by decide) (by decide +kernel)) ?_
        refine AS_cons ?_
        refine AX_expr (by rw [← hX]; rfl) (by with_unfolding_all rfl) ?_
        refine AE_append ?_ (by rfl) (by with_unfolding_all rfl)
        walk_at "name"
        refine ⟨h, _, rfl, q1, ?_⟩
        refine AE_tuple ?_
        refine AEs_cons (by rfl) ?_
        refine AE_subN (by intro _ _; rfl) ?_
        refine AE_subN (by intro _ _; rfl) ?_
        walk_at "name"
        refine AE_int ?_
        refine ⟨0, _, _, rfl, .lst, by omega, mv_get hT.1 (by omega), ?_⟩
        walk_at "name"
        refine ⟨i + 1, _, _, rfl, .lst, by omega, mv_get2 hT.1 (by omega) (by omega), ?_⟩
        refine AEs_cons (by rfl) ?_
        walk_at "name"
        refine AEs_nil ⟨by simp, ?_⟩
        refine ⟨_, q1, by simp; omega, ?_⟩
        rw [show Val.tup [Val.int (wt T 0 (i + 1)), Val.int ((i + 1 : Nat) : Int)] = tv [wt T 0 (i + 1), ((i + 1 : Nat) : Int)] from rfl, show H.map tv ++ [tv [wt T 0 (i + 1), ((i + 1 : Nat) : Int)]] = (H ++ [[wt T 0 (i + 1), ((i + 1 : Nat) : Int)]]).map tv from by simp]
        refine AS_cons ?_
        refine AX_expr (by rw [← hX]; rfl) (by with_unfolding_all rfl) ?_
        refine AE_call ok (hB ▸ N2) (by rw [← hX]; rfl) (by decide) (by rfl) ?_
        refine AEs_cons (by rfl) ?_
        walk_at "name"
        refine AEs_cons (by rfl) ?_
        refine AE_int ?_
        refine AEs_cons (by rfl) ?_
        refine AE_bin ?_
        refine AE_builtin ok (BName_fn hX F.len (by decide) (by decide) (by rfl) (by rfl)) (by rfl) (by rfl) ?_
        refine AEs_cons (by rfl) ?_
        walk_at "name"
        refine AEs_nil ?_
        refine BC_len (.ref mem_hit) (by simp; omega) ?_
        refine AE_int ?_
        refine Op_sub ?_
        rw [show (((H ++ [[wt T 0 (i + 1), ((i + 1 : Nat) : Int)]]).map tv).length : Int) - 1 = (H.length : Int) from by simp]
        refine AEs_nil ⟨rfl, ?_⟩
        refine sd_walk3 (s := 0) (x := [wt T 0 (i + 1), ((i + 1 : Nat) : Int)]) mem_hit (by simp; omega) (by simp) ?_
        obtain ⟨r1, r2⟩ := push_spec (x := [wt T 0 (i + 1), ((i + 1 : Nat) : Int)]) q2
        refine AS_nil ⟨.inl rfl, trivial, ⟨_, mem_hit, r1, r2.trans ?_⟩, by walk_at "loc", by walk_at "loc", by walk_at "loc", by walk_at "loc", by walk_at "loc"⟩
        rw [List.range_succ, List.map_append]
        exact q3.append_right _
      · intro σ6 hI
        rw [List.length_map, List.length_range] at hI
        exact ⟨rfl, hI⟩
    rintro fl σ6 ⟨rfl, ⟨H, q1, q2, q3⟩, q4, q5, q6, q7, q8⟩
    refine AS_cons ?_
    refine AX_assign (by rw [← hX]; with_unfolding_all rfl) (by with_unfolding_all rfl) (by with_unfolding_all rfl) ?_
    refine AE_list ?_
    refine AEs_cons (by rfl) ?_
    refine AE_int ?_
    refine AEs_nil ⟨by simp, .tracked fun o ho => ?_⟩
    have hoh : h ≠ o := fun q => by rw [← q, q1] at ho; cases ho
    refine AG_name ok (Writes_fn hX (by decide) (by decide +kernel)) ?_
    have hP : Ph (wt T) ps.length H [0] := by
      refine ⟨q2, q3.trans ?_, .one 0, by simp, by simp; omega⟩
      have e : (List.range ps.length).filter (fun k => !([0] : List Nat).contains k) = (List.range (ps.length - 1)).map (· + 1) := by
        obtain ⟨m, em⟩ : ∃ m, ps.length = m + 1 := ⟨ps.length - 1, by omega⟩
        rw [em, List.range_succ_eq_map, List.filter_cons, if_neg (by decide), List.filter_map, List.filter_eq_self.mpr (fun a _ => by simp)]
        rfl
      rw [e, List.map_map]
      apply List.Perm.of_eq
      apply List.map_congr_left
      intro j _
      show [wt T 0 (j + 1), _] = [keyO (wt T) [0] (j + 1), _]
      unfold keyO
      rw [tot_cons, tot_nil, hT.2.1 0 (j + 1)]; simp
    refine AS_cons ?_
    refine Mine.T.mono (P := PhE o M T ps) (AX_while (PhI h o M T ps) ?_ H.length ⟨⟨H, [0], hP, rfl, mem_set (mem_miss hoh q1), mem_set mem_hit, fun q => by simp at q⟩, by walk_at "loc", by walk_at "loc", by walk_at "loc", by walk_at "loc", by walk_at "loc", by walk_at "loc"⟩) ?_
    · rintro k σ7 ⟨⟨H, od, P, rfl, mh, mo, hlast⟩, t1, t2, t3, t4, t5, t6⟩
      have hHl : H.length ≤ 6 := by
        have := P.ent.length_eq
        have := List.length_filter_le (fun k => !od.contains k) (List.range ps.length)
        simp at *; omega
      have hodl : od.length ≤ 6 := by
        have sp : od.Perm ((List.range ps.length).filter fun k => od.contains k) := by
          rw [List.perm_ext_iff_of_nodup P.nd (List.nodup_range.filter _)]
          intro a
          simp only [List.mem_filter, List.mem_range, List.contains_iff_mem]
          exact ⟨fun h => ⟨P.lt a h, h⟩, fun h => h.2⟩
        have h1 := sp.length_eq
        have h2 := List.length_filter_le (fun k => od.contains k) (List.range ps.length)
        rw [List.length_range] at h2
        omega
      refine AT_cmp rfl ?_
      walk_at "name"
      refine AE_list ?_
      refine AEs_nil ⟨by simp, .frozen ?_⟩
      refine Cmp_neD ok (.ref mh) .self (pureTs _) (pureInts []) ?_
      intro b hb
      refine ⟨fun hbt => ?_, fun hbf => ?_⟩
      rotate_left
      · have hl : H = [] := by
          cases H with
          | nil => rfl
          | cons a r =>
            have : b = true := hb.mpr (by simp)
            rw [hbf] at this; cases this
        subst hl
        have hd := P.done
        have : od.length = ps.length := by simpa using hd.length_eq
        obtain ⟨o', v, e, g1, g2, g3, g4⟩ := hlast (by omega)
        subst e
        exact ⟨rfl, ⟨o', v, g1, g2, g3, hd, mo, g4⟩, t1, t2, t3, t5, t6⟩
      have hHne : H ≠ [] := fun q => by
        subst q
        exact hb.mp hbt rfl
      obtain ⟨v, hH0, hvn, hvo, hmax⟩ := P.top hHne
      obtain ⟨l, y, eH⟩ : ∃ l y, H = l ++ [y] := ⟨H.dropLast, H.getLast hHne, (List.dropLast_concat_getLast _).symm⟩
      obtain ⟨left, eleft⟩ : ∃ left, left = (List.range ps.length).filter fun k => !od.contains k := ⟨_, rfl⟩
      have hlm : ∀ k, k ∈ left ↔ k < ps.length ∧ k ∉ od := fun k => by rw [eleft]; exact rest_mem
      have hll6 : left.length ≤ 6 := by
        have := List.length_filter_le (fun k => !od.contains k) (List.range ps.length)
        rw [eleft]; simp at *; omega
      refine AS_cons ?_
      refine AX_assign_comp ok (CompOk_fn hX rfl (by decide) (by decide +kernel)) (by intro _; rfl) (by rw [← hX]; with_unfolding_all rfl) (Writes_fn hX (by decide) (by decide +kernel)) ?_
      refine AI_range1 ok ⟨_, _, rfl⟩ (BName_fn hX F.range (by decide) (by decide) (by rfl) (by rfl)) (by rfl) ?_
      refine AE_builtin ok (BName_fn hX F.len (by decide) (by decide) (by rfl) (by rfl)) (by rfl) (by rfl) ?_
      refine AEs_cons (by rfl) ?_
      walk_at "name"
      refine AEs_nil ?_
      refine BC_len .lst (by simp; omega) ?_
      rw [List.length_map]
      refine ⟨_, rfl, small_1 (by omega) (by omega) (by omega) (by omega), ?_⟩
      rw [rangeV]
      refine CompK_pure (fun V => decide (V.toInt ∉ zs od)) id (by simp [zs_len]; omega) (fun _ _ => trivial) ?_ ?_
      · intro C σ3 V okc hVm hmm hll
        obtain ⟨k, hk, rfl⟩ := nv_mem hVm
        refine AG_name okc (Writes_comp ok (by decide) (by rfl)) ?_
        refine ⟨⟨rfl, fun y hy => ?_⟩, ?_⟩
        · rw [St.set_loc, if_neg (fun q => by rw [q] at hy; revert hy; decide)]; exact hll y hy
        · refine ATs_one ?_
          refine AT_cmp rfl ?_
          refine AE_name okc loc_hit ?_
          refine AE_name okc (V := .ref o) (loc_miss (by decide) ((hll _ (by rfl)).trans (by walk_at "loc"))) ?_
          refine Cmp_notin (.ref (hmm o _ mo)) ?_
          exact ⟨rfl, rfl, fun _ => AE_name okc loc_hit ⟨rfl, rfl⟩⟩
      refine .frozen ?_
      rw [List.map_id, nv_filter _ (fun k => !od.contains k) _ (fun k _ => by
        show decide ((k : Int) ∉ zs od) = _
        by_cases q : k ∈ od
        · simp [q, zs_mem.mpr q]
        · have := mt zs_mem.mp q
          simp [q, this]), ← eleft]
      refine AS_cons ?_
      walk_at "asn"
      refine AE_subN (by intro _ _; rfl) ?_
      walk_at "name"
      refine AE_int ?_
      refine ⟨0, _, _, rfl, .ref mh, by omega, map_get hH0, ?_⟩
      refine AG_tuple ok (by intro t ht e p q; simp at ht; rcases ht with rfl | rfl <;> cases q) rfl ?_
      show AG _ _ _ _ _
      refine AG_name ok (Writes_fn hX (by decide) (by decide +kernel)) ?_
      show AG _ _ _ _ _
      refine AG_name ok (Writes_fn hX (by decide) (by decide +kernel)) ?_
      show AS _ _ _ _
      refine AS_cons ?_
      refine AX_if ?_
      refine AT_cmp rfl ?_
      walk_at "name"
      refine AE_builtin ok (BName_fn hX F.max (by decide) (by decide) (by rfl) (by rfl)) (by rfl) (by rfl) ?_
      refine AEs_cons (by rfl) ?_
      refine AE_comp ok (CompOk_fn hX rfl (by decide) (by decide +kernel)) (by intro _; rfl) ?_
      refine AI_list (.inl ⟨_, _, rfl⟩) ?_
      walk_at "name"
      refine ⟨_, .lst, ?_⟩
      refine CompK_pure (fun _ => true) (fun V => .int (keyO (wt T) od V.toInt.toNat)) (by simp [zs_len]; omega) (fun _ _ => .lst) ?_ ?_
      · intro C σ3 V okc hVm hmm hll
        obtain ⟨k, hk, rfl⟩ := nv_mem hVm
        have hk' := ((hlm k).mp hk).1
        refine AG_name okc (Writes_compC ok (by decide) (by rfl)) ?_
        refine ⟨⟨rfl, fun y hy => ?_⟩, rfl, rfl, fun _ => ?_⟩
        · rw [St.set_loc, if_neg (fun q => by rw [q] at hy; revert hy; decide)]; exact hll y hy
        · refine AE_builtin okc (BName_comp ok (hB ▸ F.sum) (by decide) (by decide) (by rfl) (by rfl)) (by rfl) (by rfl) ?_
          refine AEs_cons (by rfl) ?_
          refine AE_comp okc (CompOk_comp ok rfl (by decide) (by decide +kernel)) (by intro _; rfl) ?_
          refine AI_list (.inl ⟨_, _, rfl⟩) ?_
          refine AE_name okc (V := .ref o) (loc_miss (by decide) ((hll _ (by rfl)).trans (by walk_at "loc"))) ?_
          refine ⟨nv od, .ref (hmm o _ mo), ?_⟩
          refine CompK_pure (fun _ => true) (fun V => .int (wt T k V.toInt.toNat)) (by simp [zs_len]; omega) (fun σ9 h9 => .ref (h9 o _ (hmm o _ mo))) ?_ ?_
          · intro C2 σ9 V2 okc2 hVm2 hmm2 hll2
            obtain ⟨i1, hi1, rfl⟩ := nv_mem hVm2
            have hi1' := P.lt i1 hi1
            refine AG_name okc2 (Writes_comp okc (by decide) (by rfl)) ?_
            refine ⟨⟨rfl, fun y hy => ?_⟩, rfl, rfl, fun _ => ?_⟩
            · rw [St.set_loc, if_neg (fun q => by rw [q] at hy; revert hy; decide)]; exact hll2 y hy
            · refine AE_subN (by intro _ _; rfl) ?_
              refine AE_subN (by intro _ _; rfl) ?_
              refine AE_name okc2 (V := .lst (mv T)) (loc_miss (by decide) ((hll2 _ (by rfl)).trans (loc_miss (by decide) ((hll _ (by rfl)).trans (by walk_at "loc"))))) ?_
              refine AE_name okc2 (V := .int (k : Int)) (loc_miss (by decide) ((hll2 _ (by rfl)).trans loc_hit)) ?_
              refine ⟨k, _, _, rfl, .lst, by omega, mv_get hT.1 hk', ?_⟩
              refine AE_name okc2 loc_hit ?_
              refine ⟨i1, _, _, rfl, .lst, by omega, mv_get2 hT.1 hk' hi1', ?_⟩
              refine ⟨rfl, ?_⟩
              show Val.int _ = Val.int (wt T k (i1 : Int).toNat)
              rw [Int.toNat_natCast]
          refine .frozen ?_
          rw [List.filter_eq_self.mpr (by simp), show List.map (fun V => Val.int (wt T k V.toInt.toNat)) (nv od) = (od.map fun i => wt T k i).map Val.int from by
            rw [nv_eq, List.map_map, List.map_map]; rfl]
          refine AEs_nil ?_
          refine BC_sum okc .lst ?_
          refine ⟨rfl, ?_⟩
          show _ = Val.int (keyO (wt T) od (k : Int).toNat)
          rw [Int.toNat_natCast]; rfl
      refine .frozen ?_
      rw [List.filter_eq_self.mpr (by simp), show List.map (fun V => Val.int (keyO (wt T) od V.toInt.toNat)) (nv left) = (left.map fun k => keyO (wt T) od k).map Val.int from by
        rw [nv_eq, List.map_map, List.map_map]; rfl]
      refine AEs_nil ?_
      have hvl : v ∈ left := (hlm v).mpr ⟨hvn, hvo⟩
      have hmx : maxL (left.map fun k => keyO (wt T) od k) = keyO (wt T) od v := by
        have h1 := maxL_ge (l := left.map fun k => keyO (wt T) od k) (List.mem_map.mpr ⟨v, hvl, rfl⟩)
        have h2 := maxL_mem (l := left.map fun k => keyO (wt T) od k) (fun q => by
          have : left = [] := by simpa using q
          rw [this] at hvl; cases hvl)
        obtain ⟨k, hk, ek⟩ := List.mem_map.mp h2
        have := hmax k ((hlm k).mp hk).1 ((hlm k).mp hk).2
        omega
      refine BC_max ok .lst (fun q => by
        have : left = [] := by simpa using q
        rw [this] at hvl; cases hvl) ?_
      rw [hmx]
      refine Cmp_ne ?_
      refine ⟨fun q => by simp at q, fun _ => ?_⟩
      refine AS_nil ?_
      -- the top is taken off
      have hpop : ∀ H' : List El, ((l = [] ∧ H' = []) ∨ (∃ x, l[0]? = some x ∧ H' = sup y 0 (l.set 0 y))) → Mid (wt T) ps.length H' od v [] ∧ H'.length + 1 = H.length := fun H' hH' => by
        subst eH
        refine ⟨P.pop hH0 hvn hvo H' hH', ?_⟩
        rcases hH' with ⟨rfl, rfl⟩ | ⟨x, hx, rfl⟩
        · rfl
        · rw [sup_length (by simpa using get_lt hx)]; simp
      generalize hσ : (St.set (St.set (St.set σ7 _ _) _ _) _ _) = σ8
      have g1 : σ8.loc (Str.ofString "tie") = some (.lst (mv M)) := by rw [← hσ]; walk_at "loc"
      have g2 : σ8.loc (Str.ofString "ties") = some (.lst (mv T)) := by rw [← hσ]; walk_at "loc"
      have g3 : σ8.loc (Str.ofString "parts") = some (.lst (pv ps)) := by rw [← hσ]; walk_at "loc"
      have g4 : σ8.loc (Str.ofString "heap") = some (.ref h) := by rw [← hσ]; walk_at "loc"
      have g5 : σ8.loc (Str.ofString "order") = some (.ref o) := by rw [← hσ]; walk_at "loc"
      have g6 : σ8.loc (Str.ofString "fair") = some (.bool true) := by rw [← hσ]; walk_at "loc"
      have g7 : σ8.loc (Str.ofString "top") = some (.int (keyO (wt T) od v)) := by rw [← hσ]; walk_at "loc"
      have g8 : σ8.loc (Str.ofString "new") = some (.int (v : Int)) := by rw [← hσ]; walk_at "loc"
      have g9 : σ8.loc (Str.ofString "left") = some (.lst (nv left)) := by rw [← hσ]; walk_at "loc"
      have m1 : σ8.mem h = some (.list (H.map tv)) := by rw [← hσ]; exact mh
      have m2 : σ8.mem o = some (.list (nv od)) := by rw [← hσ]; exact mo
      clear hσ
      refine AS_cons ?_
      refine Mine.T.mono (P := fun fl σ' => fl = .next ∧ ∃ H', σ' = σ8.put h (.list (H'.map tv)) ∧ Mid (wt T) ps.length H' od v [] ∧ H'.length + 1 = H.length) ?_ ?_
      · refine AX_if ?_
        refine AT_cmp rfl ?_
        refine AE_call ok (hB ▸ N1) (by rw [← hX]; rfl) (by decide) (by rfl) ?_
        refine AEs_cons (by rfl) ?_
        walk_at "name"
        refine AEs_nil ⟨rfl, ?_⟩
        have after : ∀ (p1 p2 p3 p4 p5 : Pos) (H' : List El), Mid (wt T) ps.length H' od v [] → H'.length + 1 = H.length → AE X (.Tuple [.Name (Str.ofString "top") p1, .Name (Str.ofString "new") p2] 0 p3) (σ8.put h (.list (H'.map tv))) (fun b σ2 => Cmp2 X .NotEq (tv [keyO (wt T) od v, (v : Int)]) b σ2 (fun c σ1 => (c = true → AS X [.Return (some (.Constant (.bool false) 0 p4)) p5] σ1 (fun fl σ' => fl = .next ∧ ∃ H', σ' = σ8.put h (.list (H'.map tv)) ∧ Mid (wt T) ps.length H' od v [] ∧ H'.length + 1 = H.length)) ∧ (c = false → AS X [] σ1 (fun fl σ' => fl = .next ∧ ∃ H', σ' = σ8.put h (.list (H'.map tv)) ∧ Mid (wt T) ps.length H' od v [] ∧ H'.length + 1 = H.length)))) := by
          intro p1 p2 p3 p4 p5 H' hM' hl'
          refine AE_tuple ?_
          refine AEs_cons (by rfl) ?_
          walk_at "name"
          refine AEs_cons (by rfl) ?_
          walk_at "name"
          refine AEs_nil ⟨by simp, ?_⟩
          refine Cmp_neD ok .self .self (pureT _) (pureT [keyO (wt T) od v, (v : Int)]) ?_
          intro b hb
          refine ⟨fun q => absurd rfl (hb.mp q), fun _ => ?_⟩
          exact AS_nil ⟨rfl, H', rfl, hM', hl'⟩
        subst eH
        refine hp_walk3 (hB ▸ N2) (hB ▸ F.len) (hB ▸ N3) m1 (by simp at hHl; omega) (fun el => ?_) (fun x hx => ?_)
        · obtain ⟨a1, a2⟩ := hpop [] (.inl ⟨el, rfl⟩)
          have ey : tv y = tv [keyO (wt T) od v, (v : Int)] := by subst el; simp at hH0; rw [hH0]
          rw [ey]
          exact after _ _ _ _ _ [] a1 a2
        · obtain ⟨a1, a2⟩ := hpop _ (.inr ⟨x, hx, rfl⟩)
          have ex : x = [keyO (wt T) od v, (v : Int)] := by
            rw [List.getElem?_append_left (get_lt hx), hx] at hH0; cases hH0; rfl
          rw [ex]
          exact after _ _ _ _ _ _ a1 a2
      rintro fl σ9 ⟨rfl, H1, rfl, hMid, hH1⟩
      refine AS_cons ?_
      refine AX_expr (by rw [← hX]; rfl) (by with_unfolding_all rfl) ?_
      refine AE_append ?_ (by rfl) (by with_unfolding_all rfl)
      walk_at "name"
      refine ⟨o, _, rfl, mem_miss (Ne.symm hoh) m2, ?_⟩
      walk_at "name"
      refine ⟨_, mem_miss (Ne.symm hoh) m2, by simp [zs_len]; omega, ?_⟩
      rw [show nv od ++ [Val.int (v : Int)] = nv (od ++ [v]) from by rw [nv_eq, nv_eq, List.map_append]; rfl]
      refine AS_cons ?_
      refine Mine.T.mono (P := fun fl σ' => fl = .next ∧ RsI h o M T ps od v H1.length left.length σ') ?_ ?_
      · refine AX_for ok (by intro _; rfl) ?_
        refine AI_list (.inl ⟨_, _, rfl⟩) ?_
        walk_at "name"
        refine ⟨_, .lst, ?_⟩
        have hlnd : left.Nodup := by rw [eleft]; exact List.nodup_range.filter _
        refine ForL_inv (RsI h o M T ps od v H1.length) ?_ (fun σ' hI => ⟨rfl, by rw [List.length_map, zs_len] at hI; exact hI⟩) ⟨⟨H1, [], hMid, rfl, mem_miss hoh mem_hit, mem_hit, (fun j hj => nomatch hj), fun a j ha => by omega⟩, by walk_at "loc", by walk_at "loc", by walk_at "loc", by walk_at "loc", by walk_at "loc", by walk_at "loc", by walk_at "loc", by walk_at "loc"⟩
        intro i σa V hV hI
        obtain ⟨⟨H2, done, hMid2, hH2, mh2, mo2, hd1, hd2⟩, u1, u2, u3, u4, u5, u6, u7, u8⟩ := hI
        rw [← eleft] at hd1 hd2
        have hi : i < left.length := by simpa [zs_len] using (List.getElem?_eq_some_iff.mp hV).1
        obtain ⟨k, hk⟩ : ∃ k, left[i]? = some k := ⟨_, List.getElem?_eq_getElem hi⟩
        obtain rfl : V = .int (k : Int) := by
          rw [nv_eq, List.getElem?_map, hk] at hV
          simpa using hV.symm
        obtain ⟨hkn, hko⟩ := (hlm k).mp (List.mem_of_getElem? hk)
        have hkd : k ∉ done := fun q => by
          obtain ⟨a, ha, e⟩ := hd1 k q
          have la := (List.getElem?_eq_some_iff.mp e).1
          have := List.pairwise_iff_getElem.mp hlnd a i la hi ha
          exact this ((List.getElem?_eq_some_iff.mp e).2.trans (List.getElem?_eq_some_iff.mp hk).2.symm)
        refine AG_name ok (Writes_fn hX (by decide) (by decide +kernel)) ?_
        refine AS_cons ?_
        refine AX_if ?_
        refine AT_cmp rfl ?_
        walk_at "name"
        walk_at "name"
        refine Cmp_ne ?_
        refine ⟨fun hc => ?_, fun hc => ?_⟩
        rotate_left
        · have hkv : k = v := by
            have := of_decide_eq_false hc
            have := Decidable.not_not.mp this
            omega
          refine AS_nil ?_
          refine AS_nil ⟨.inl rfl, .lst, ⟨H2, done, hMid2, hH2, mh2, mo2, ?_, ?_⟩, by walk_at "loc", by walk_at "loc", by walk_at "loc", by walk_at "loc", by walk_at "loc", by walk_at "loc", by walk_at "loc", by walk_at "loc"⟩
          · intro j hj
            obtain ⟨a, ha, e⟩ := hd1 j hj
            exact ⟨a, by omega, by rw [← eleft]; exact e⟩
          · intro a j ha e hjv
            rw [← eleft] at e
            by_cases q : a = i
            · subst q
              rw [hk] at e; cases e
              exact absurd hkv hjv
            · exact hd2 a j (by omega) e hjv
        have hkv : k ≠ v := fun q => by
          have := of_decide_eq_true hc
          exact this (by rw [q])
        obtain ⟨⟨pk, hpk⟩, hraise⟩ := hMid2.raise hT.2.2 hkn hko hkv hkd
        have hform : ∀ e ∈ H2, ∃ x y : Int, e = [x, y] := fun e he => by
          obtain ⟨j, _, ej⟩ := List.mem_map.mp (hMid2.ent.mem_iff.mp he)
          split at ej
          · exact ⟨_, _, ej.symm⟩
          · exact ⟨_, _, ej.symm⟩
        have hkm : (k : Int) ∈ H2.map fun e => e.getD 1 0 := List.mem_map.mpr ⟨_, List.mem_of_getElem? hpk, rfl⟩
        obtain ⟨pl, hpl1, hpl2⟩ := first_at hkm
        obtain ⟨e, he, hek⟩ : ∃ e, H2[pl]? = some e ∧ e.getD 1 0 = (k : Int) := by
          rw [List.getElem?_map] at hpl1
          obtain ⟨e, h1, h2⟩ := Option.map_eq_some_iff.mp hpl1
          exact ⟨e, h1, h2⟩
        obtain ⟨rfl, hMid3⟩ := hraise pl e he hek
        have hplt := get_lt he
        refine AS_cons ?_
        walk_at "asn"
        refine AE_index ?_ (by rfl) (by with_unfolding_all rfl)
        refine AE_comp ok (CompOk_fn hX rfl (by decide) (by decide +kernel)) (by intro _; rfl) ?_
        refine AI_list (.inl ⟨_, _, rfl⟩) ?_
        walk_at "name"
        refine ⟨_, .ref mh2, ?_⟩
        refine CompK_pure (fun _ => true) (fun V => .int (secOf V)) (by simp; omega) (fun σ9 h9 => .ref (h9 h _ mh2)) ?_ ?_
        · intro C σ3 V okc hVm hmm hll
          obtain ⟨e, he, rfl⟩ := List.mem_map.mp hVm
          obtain ⟨x, y, rfl⟩ := hform e he
          refine AG_name okc (Writes_comp ok (by decide) (by rfl)) ?_
          refine ⟨⟨rfl, fun y hy => ?_⟩, rfl, rfl, fun _ => ?_⟩
          · rw [St.set_loc, if_neg (fun q => by rw [q] at hy; revert hy; decide)]; exact hll y hy
          · refine AE_sub (by intro _ _; rfl) ?_
            refine AE_name okc loc_hit ?_
            refine AE_int ?_
            exact ⟨1, .int y, rfl, .inr ⟨_, 1, rfl, by decide, by decide, rfl, rfl⟩, rfl, rfl⟩
        refine .frozen ?_
        rw [List.filter_eq_self.mpr (by simp), show List.map (fun V => Val.int (secOf V)) (H2.map tv) = (H2.map fun e => e.getD 1 0).map Val.int from by
          rw [List.map_map, List.map_map]
          apply List.map_congr_left
          intro e he
          obtain ⟨x, y, rfl⟩ := hform e he
          rfl]
        refine ⟨_, .lst, ?_⟩
        walk_at "name"
        refine ⟨_, pl, rfl, .lst, by omega, hpl1, hpl2, ?_⟩
        refine AG_name ok (Writes_fn hX (by decide) (by decide +kernel)) ?_
        refine AS_cons ?_
        walk_at "asn"
        refine AE_tuple ?_
        refine AEs_cons (by rfl) ?_
        refine AE_bin ?_
        refine AE_sub (by intro _ _; rfl) ?_
        refine AE_subN (by intro _ _; rfl) ?_
        walk_at "name"
        walk_at "name"
        refine ⟨pl, _, _, rfl, .ref mh2, by omega, map_get he, ?_⟩
        refine AE_int ?_
        refine ⟨0, .int (keyO (wt T) od k), rfl, .inr ⟨_, 0, rfl, by decide, by decide, rfl, rfl⟩, ?_⟩
        refine AE_subN (by intro _ _; rfl) ?_
        refine AE_subN (by intro _ _; rfl) ?_
        walk_at "name"
        walk_at "name"
        refine ⟨k, _, _, rfl, .lst, by omega, mv_get hT.1 hkn, ?_⟩
        walk_at "name"
        refine ⟨v, _, _, rfl, .lst, by omega, mv_get2 hT.1 hkn hvn, ?_⟩
        refine Op_add ?_
        refine AEs_cons (by rfl) ?_
        walk_at "name"
        refine AEs_nil ⟨by simp, ?_⟩
        rw [show Val.tup [Val.int (keyO (wt T) od k + wt T k v), Val.int (k : Int)] = tv [keyO (wt T) od k + wt T k v, (k : Int)] from rfl]
        refine AG_itemN ?_
        walk_at "name"
        walk_at "name"
        refine ⟨h, _, pl, rfl, rfl, mh2, by simpa using hplt, by simp; omega, ?_⟩
        rw [map_set]
        refine AS_cons ?_
        refine AX_expr (by rw [← hX]; rfl) (by with_unfolding_all rfl) ?_
        refine AE_call ok (hB ▸ N2) (by rw [← hX]; rfl) (by decide) (by rfl) ?_
        refine AEs_cons (by rfl) ?_
        walk_at "name"
        refine AEs_cons (by rfl) ?_
        refine AE_int ?_
        refine AEs_cons (by rfl) ?_
        walk_at "name"
        refine AEs_nil ⟨rfl, ?_⟩
        refine sd_walk3 (s := 0) (x := [keyO (wt T) od k + wt T k v, (k : Int)]) mem_hit (by simp; omega) (by rw [List.getElem?_set_self hplt]) ?_
        refine AS_nil ?_
        refine AS_nil ⟨.inl rfl, .lst, ⟨_, k :: done, hMid3, by rw [sd_length]; simpa using hH2, mem_hit, mem_miss (Ne.symm hoh) (mem_miss (Ne.symm hoh) mo2), ?_, ?_⟩, by walk_at "loc", by walk_at "loc", by walk_at "loc", by walk_at "loc", by walk_at "loc", by walk_at "loc", by walk_at "loc", by walk_at "loc"⟩
        · intro j hj
          rcases List.mem_cons.mp hj with q | q
          · exact ⟨i, by omega, by rw [← eleft, q]; exact hk⟩
          · obtain ⟨a, ha, e⟩ := hd1 j q
            exact ⟨a, by omega, by rw [← eleft]; exact e⟩
        · intro a j ha e hjv
          rw [← eleft] at e
          by_cases q : a = i
          · subst q
            rw [hk] at e; cases e
            exact .head _
          · exact .tail _ (hd2 a j (by omega) e hjv)
      · rintro fl σ9 ⟨rfl, ⟨H2, done, hMid2, hH2, mh2, mo2, hd1, hd2⟩, u1, u2, u3, u4, u5, u6, u7, u8⟩
        refine AS_nil ?_
        refine ⟨H2.length, by omega, ⟨H2, od ++ [v], hMid2.fin ?_ P.gr P.nd P.lt hvo hvn hmax, rfl, mh2, mo2, fun _ => ⟨od, v, rfl, P.gr, hvo, hvn, u7⟩⟩, u1, u2, u3, u4, u5, u6⟩
        intro k hk hko hkv
        have hkl : k ∈ left := (hlm k).mpr ⟨hk, hko⟩
        obtain ⟨a, ha, e⟩ := List.mem_iff_getElem.mp hkl
        exact hd2 a k ha (by rw [← eleft, List.getElem?_eq_getElem ha, e]) hkv
    · rintro fl σ7 ⟨rfl, ⟨o', v, gr, hv, hvn, hperm, hmo, htop⟩, t1, t2, t3, t4, t5⟩
      have hone : o' ≠ [] := by cases gr <;> simp
      obtain ⟨o'', a, eo⟩ : ∃ o'' a, o' = o'' ++ [a] := ⟨o'.dropLast, o'.getLast hone, (List.dropLast_concat_getLast _).symm⟩
      have hla : o'.getLast? = some a := by rw [eo]; simp
      have hol : (o' ++ [v]).length = ps.length := by simpa using hperm.length_eq
      have hlt : ∀ k ∈ o' ++ [v], k < ps.length := fun k hk => by simpa using hperm.mem_iff.mp hk
      have han : a < ps.length := hlt a (by rw [eo]; simp)
      have hnvl : (nv (o' ++ [v])).length = ps.length := by rw [List.length_map, zs_len, hol]
      have ga : (nv (o' ++ [v]))[ps.length - 2]? = some (.int (a : Int)) := by
        rw [nv_eq, List.getElem?_map, eo, show ps.length - 2 = o''.length from by rw [← hol, eo]; simp]
        simp
      have gv : (nv (o' ++ [v]))[ps.length - 1]? = some (.int (v : Int)) := by
        rw [nv_eq, List.getElem?_map, show ps.length - 1 = o'.length from by rw [← hol]; simp]
        simp
      have gp : ∀ k, k < ps.length → (pv ps)[k]? = some (.lst (nv (ps.getD k []))) := fun k hk => by
        rw [List.getElem?_map, List.getD_eq_getElem?_getD, List.getElem?_eq_getElem hk]; rfl
      have gm : ∀ k, k < ps.length → ps.getD k [] ∈ ps := fun k hk => by
        rw [List.getD_eq_getElem?_getD, List.getElem?_eq_getElem hk]; exact List.getElem_mem hk
      refine AS_cons ?_
      refine AX_if ?_
      refine AT_cmp rfl ?_
      walk_at "name"
      refine AE_call ok (hB ▸ N5) (by rw [← hX]; rfl) (by decide) (by rfl) ?_
      refine AEs_cons (by rfl) ?_
      walk_at "name"
      refine AEs_cons (by rfl) ?_
      refine AE_sub (by intro _ _; rfl) ?_
      walk_at "name"
      refine AE_neg ?_
      refine AE_int ?_
      refine ⟨_, rfl, ?_⟩
      refine ⟨-2, .int (a : Int), rfl, .inl ⟨_, .ref hmo, .inr ⟨by decide, by decide, by rw [hnvl]; omega, by rw [hnvl, show (-2 + (ps.length : Int)).toNat = ps.length - 2 from by omega]; exact ga⟩⟩, ?_⟩
      refine AEs_cons (by rfl) ?_
      refine AE_sub (by intro _ _; rfl) ?_
      walk_at "name"
      refine AE_neg ?_
      refine AE_int ?_
      refine ⟨_, rfl, ?_⟩
      refine ⟨-1, .int (v : Int), rfl, .inl ⟨_, .ref hmo, .inr ⟨by decide, by decide, by rw [hnvl]; omega, by rw [hnvl, show (-1 + (ps.length : Int)).toNat = ps.length - 1 from by omega]; exact gv⟩⟩, ?_⟩
      refine AEs_nil ⟨rfl, ?_⟩
      refine least_walk3 (hB ▸ F) hT.1 (by omega) han ?_
      rw [least_eq hT.2.1 hT.2.2 (by omega) gr hv hvn hperm hla]
      refine Cmp_ne ?_
      refine ⟨fun q => by simp at q, fun _ => ?_⟩
      refine AS_nil ?_
      refine AS_cons ?_
      walk_at "asn"
      refine AE_bin ?_
      refine AE_comp ok (CompOk_fn hX rfl (by decide) (by decide +kernel)) (by intro _; rfl) ?_
      refine AI_list (.inl ⟨_, _, rfl⟩) ?_
      refine AE_slice (by intro _ _; exact ⟨_, rfl⟩) ?_
      walk_at "name"
      show AE _ _ _ _
      refine AE_neg ?_
      refine AE_int ?_
      refine ⟨_, rfl, ?_⟩
      refine ⟨_, rfl, ?_⟩
      show ∃ vs, _
      refine ⟨_, .ref hmo, by rw [hnvl]; omega, by decide, .frozen ?_⟩
      have epick : pickV (nv (o' ++ [v])) none (some (-2)) none = nv ((o' ++ [v]).take (ps.length - 2)) := by
        rw [pickV_plain]
        simp only [Option.elim, List.drop_zero, Nat.sub_zero]
        rw [hnvl, show clipAt ps.length (-2) = ps.length - 2 from by unfold clipAt; rw [if_pos (by decide)]; omega, nv_eq, nv_eq, List.map_take]
      rw [epick]
      refine ⟨_, .lst, ?_⟩
      refine CompK_pure (fun _ => true) (fun V => .lst (nv (ps.getD V.toInt.toNat []))) (by simp [zs_len]; omega) (fun _ _ => .lst) ?_ ?_
      · intro C σ3 V okc hVm hmm hll
        obtain ⟨k, hk, rfl⟩ := nv_mem hVm
        have hk' := hlt k (List.mem_of_mem_take hk)
        refine AG_name okc (Writes_comp ok (by decide) (by rfl)) ?_
        refine ⟨⟨rfl, fun y hy => ?_⟩, rfl, rfl, fun _ => ?_⟩
        · rw [St.set_loc, if_neg (fun q => by rw [q] at hy; revert hy; decide)]; exact hll y hy
        · refine AE_subN (by intro _ _; rfl) ?_
          refine AE_name okc (V := .lst (pv ps)) (loc_miss (by decide) ((hll _ (by rfl)).trans (by walk_at "loc"))) ?_
          refine AE_name okc loc_hit ?_
          refine ⟨k, _, _, rfl, .lst, by omega, gp k hk', rfl, ?_⟩
          show Val.lst _ = Val.lst (nv (ps.getD (k : Int).toNat []))
          rw [Int.toNat_natCast]
      refine .frozen ?_
      rw [List.filter_eq_self.mpr (by simp), show List.map (fun V => Val.lst (nv (ps.getD V.toInt.toNat []))) (nv ((o' ++ [v]).take (ps.length - 2))) = pv (((o' ++ [v]).take (ps.length - 2)).map fun k => ps.getD k []) from by
        rw [nv_eq, List.map_map]
        show _ = List.map (fun p => Val.lst (nv p)) (List.map _ _)
        rw [List.map_map]; rfl]
      refine AE_list ?_
      refine AEs_cons (by rfl) ?_
      refine AE_bin ?_
      refine AE_subN (by intro _ _; rfl) ?_
      walk_at "name"
      refine AE_sub (by intro _ _; rfl) ?_
      walk_at "name"
      refine AE_neg ?_
      refine AE_int ?_
      refine ⟨_, rfl, ?_⟩
      refine ⟨-2, .int (a : Int), rfl, .inl ⟨_, .ref hmo, .inr ⟨by decide, by decide, by rw [hnvl]; omega, by rw [hnvl, show (-2 + (ps.length : Int)).toNat = ps.length - 2 from by omega]; exact ga⟩⟩, ?_⟩
      refine ⟨a, _, _, rfl, .lst, by omega, gp a han, ?_⟩
      refine AE_subN (by intro _ _; rfl) ?_
      walk_at "name"
      refine AE_sub (by intro _ _; rfl) ?_
      walk_at "name"
      refine AE_neg ?_
      refine AE_int ?_
      refine ⟨_, rfl, ?_⟩
      refine ⟨-1, .int (v : Int), rfl, .inl ⟨_, .ref hmo, .inr ⟨by decide, by decide, by rw [hnvl]; omega, by rw [hnvl, show (-1 + (ps.length : Int)).toNat = ps.length - 1 from by omega]; exact gv⟩⟩, ?_⟩
      refine ⟨v, _, _, rfl, .lst, by omega, gp v hvn, ?_⟩
      refine Op_addList .lst .lst (by have := (hpl _ (gm a han)).1; have := (hpl _ (gm v hvn)).1; rw [List.length_map, List.length_map, zs_len, zs_len]; omega) (.frozen ?_)
      refine AEs_nil ⟨by simp, .frozen ?_⟩
      refine Op_addList .lst .lst (by simp; omega) (.frozen ?_)
      rw [show pv (((o' ++ [v]).take (ps.length - 2)).map fun k => ps.getD k []) ++ [Val.lst (nv (ps.getD a []) ++ nv (ps.getD v []))] = pv ((((o' ++ [v]).take (ps.length - 2)).map fun k => ps.getD k []) ++ [ps.getD a [] ++ ps.getD v []]) from by
        show _ = List.map (fun p => Val.lst (nv p)) (_ ++ [_])
        rw [List.map_append]
        congr 1
        show [Val.lst _] = [Val.lst _]
        rw [nv_eq, nv_eq, nv_eq, List.map_append]]
      refine AG_name ok (Writes_fn hX (by decide) (by decide +kernel)) ?_
      have hnl : ((((o' ++ [v]).take (ps.length - 2)).map fun k => ps.getD k []) ++ [ps.getD a [] ++ ps.getD v []]).length = ps.length - 1 := by
        rw [List.length_append, List.length_map, List.length_take, hol]; simp; omega
      refine AS_nil ⟨ps.length - 1, by omega, ⟨_, by rw [hnl]; omega, by rw [hnl], by omega, ?_, by walk_at "loc"⟩, by walk_at "loc", by walk_at "loc"⟩
      intro p hp
      rw [hnl]
      have e2 : 2 ^ (6 - (ps.length - 1)) = 2 ^ (6 - ps.length) + 2 ^ (6 - ps.length) := by
        rw [show 6 - (ps.length - 1) = (6 - ps.length) + 1 from by omega, Nat.pow_succ]; omega
      rcases List.mem_append.mp hp with h | h
      · obtain ⟨k, hk, rfl⟩ := List.mem_map.mp h
        have := hpl0 _ (gm k (hlt k (List.mem_of_mem_take hk)))
        exact ⟨by omega, this.2⟩
      · rw [List.mem_singleton] at h
        subst h
        have h1 := hpl0 _ (gm a han)
        have h2 := hpl0 _ (gm v hvn)
        refine ⟨by rw [List.length_append]; omega, fun i hi => ?_⟩
        rcases List.mem_append.mp hi with q | q
        · exact h1.2 i q
        · exact h2.2 i q
  · rintro fl σ5 ⟨rfl, e5⟩
    refine AS_cons ?_
    refine AX_ret ?_
    walk_at "name"
    rfl
end Mine
end
section
open PySem PySem.W PyProof.Rows
set_option maxRecDepth 100000
set_option maxHeartbeats 8000000
namespace Mine
open_top hd3 for PySem.Challenge.rw_dp0038_03
end Mine
end
section
open PySem PySem.W PyProof.Rows PySem.Calls
set_option maxRecDepth 100000
set_option maxHeartbeats 8000000
namespace Mine
theorem recs3 : recsOf hd3.view_39 = [d3 1, d3 2, d3 3, d3 5, d3 6] := by rfl

theorem top3 {loose : List Str} {mean : ExcName → Option Value} {mg mb : Str → Option Value} {h : Heap} (T : Top hd3.view_39 loose mean mg mb h) (hl : loose = []) {prog : Program} {w : World} {os : OsState} :
    Fns3 ⟨prog, w, h, os, mg, mb⟩ ∧ Free3 ⟨prog, w, h, os, mg, mb⟩ ∧ ∃ fa fd o, FnAt ⟨prog, w, h, os, mg, mb⟩ (Str.ofString "law") [Str.ofString "script"] (d3 6).body (d3 6).scope fa fd o := by
  subst hl
  refine ⟨⟨?_, ?_, ?_, ?_⟩, ⟨?_, ?_, ?_, ?_, ?_, ?_, ?_⟩, ?_⟩
  · refine FnAt_of_top T (d := d3 1) (by rw [recs3]; simp) ?_ (by decide) (by decide +kernel) (by decide +kernel) rfl rfl rfl
    intro pm code doc vals h
    match vals, h with
    | [a], _ => rfl
  · refine FnAt_of_top T (d := d3 2) (by rw [recs3]; simp) ?_ (by decide) (by decide +kernel) (by decide +kernel) rfl rfl rfl
    intro pm code doc vals h
    match vals, h with
    | [a, b, c], _ => rfl
  · refine FnAt_of_top T (d := d3 3) (by rw [recs3]; simp) ?_ (by decide) (by decide +kernel) (by decide +kernel) rfl rfl rfl
    intro pm code doc vals h
    match vals, h with
    | [a, b], _ => rfl
  · refine FnAt_of_top T (d := d3 5) (by rw [recs3]; simp) ?_ (by decide) (by decide +kernel) (by decide +kernel) rfl rfl rfl
    intro pm code doc vals h
    match vals, h with
    | [a, b, c], _ => rfl
  all_goals first | exact T.free _ (by decide +kernel) (by decide +kernel) (by decide +kernel) (by decide +kernel) (by decide +kernel) | skip
  · refine FnAt_of_top T (d := d3 6) (by rw [recs3]; simp) ?_ (by decide) (by decide +kernel) (by decide +kernel) rfl rfl rfl
    intro pm code doc vals h
    match vals, h with
    | [a], _ => rfl
end Mine
open Mine
theorem PySem.Challenge.cw_dp0038_03_holds : PySem.Challenge.rw_dp0038_03.Holds := by
  refine hd3 ?_
  intro w s₀ s₁ mg mb G Y fa o pm cd doc dV kV ho hd hcd hD hmg hg args vals as hpre hlay hrd hwl hlo
  refine Ground.open G ?_
  intro T B D TE TW
  wrow_args hpre hlay hrd hwl hlo
  rename_i ns hs hlay0 hLy hr1 hl2 as1 as2 a vs as3 hL ra w1 r0 hI hr2 hc1 hc2
  obtain ⟨N, F, fa', fd', o', FL⟩ := top3 T rfl (prog := PySem.Challenge.rw_dp0038_03.row.prog) (w := w) (os := s₁.os)
  have efa : fa = fa' := by
    have e1 := FL.glob
    have e2 : mg (Str.ofString "law") = some (.ref fa) := hmg
    have e3 : mg (Str.ofString "law") = some (.ref fa') := e1
    rw [e2] at e3; cases e3; rfl
  subst efa
  have hsq : s₁.heap.get? a = some { cls := .type "list", data := .seq vs.toArray } := by
    cases w1 with
    | list e _ =>
      obtain ⟨o1, h1, _, k1, h2⟩ := hL
      rw [e] at h1; cases h1
      simp only [Data.seq.injEq] at h2
      obtain ⟨h2, _⟩ := h2
      rw [e, h2]
  have run := call_top (B := ⟨PySem.Challenge.rw_dp0038_03.row.prog, w, s₁.heap, s₁.os, mg, mb⟩) (n := 10) (A := callerA) ⟨T.g, T.b, T.builtins, T.nolimit⟩ rfl (by decide) (by decide) FL (s := s₁) (vs := [.ref a]) (Vs := [.lst (ns.map Val.int)]) rfl hg rfl
    (.cons (.lst hsq rfl (RVs.of_ints hI)) .nil) rfl (law_walk3 F N (by omega))
  refine wpAny_mono run ?_ fun _ _ e => e.elim
  rintro v s' ⟨V, σ', mem, rv, rfl, keep, hos, hgens⟩
  obtain rfl := rv.bool_inv
  refine GoodW.toG ⟨.inl ⟨.bool true, .bool true, [], rfl, fun _ => rfl, ?_, ?_, ?_⟩, keep, hos, hgens⟩
  · exact .bool true
  · wrow_post
  · intro _; exact ⟨List.nodup_nil, fun _ h => nomatch h⟩
end
