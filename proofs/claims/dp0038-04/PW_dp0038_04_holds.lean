import PyProof.Rows.All
import Wide.All
import OpenK.AllK
import Wide.FinOn
import PySem.Challenge.RW_dp0038_04
set_option Elab.async false
section
open PySem PySem.W PyProof.Rows
namespace Mine

/-! Values, memory, representation -/
inductive Val where
  | none
  | bool (b : Bool)
  | int (i : Int)
  | str (x : Str)
  | tup (vs : List Val)
  | lst (vs : List Val)
  | ref (a : Addr)

inductive Box where
  | list (vs : List Val)
  | dict (kvs : List (Int × Val))

abbrev Mem := Addr → Option Box

mutual
inductive RV (h : Heap) (mem : Mem) : Value → Val → Prop
  | none : RV h mem Value.none Val.none
  | bool (b : Bool) : RV h mem (Value.bool b) (Val.bool b)
  | int (i : Int) (t : Tok) : RV h mem (Value.int i t) (Val.int i)
  | str (x : Str) (t : Tok) : RV h mem (Value.str x t) (Val.str x)
  | tup {a : Addr} {items : List Value} {n : Nat} {vs : List Val} : IsT h a items.toArray n → mem a = Option.none → RVs h mem items vs → RV h mem (Value.ref a) (Val.tup vs)
  | lst {a : Addr} {items : List Value} {n : Nat} {vs : List Val} : IsL h a items.toArray n → mem a = Option.none → RVs h mem items vs → RV h mem (Value.ref a) (Val.lst vs)
  | ref (a : Addr) : RV h mem (Value.ref a) (Val.ref a)
inductive RVs (h : Heap) (mem : Mem) : List Value → List Val → Prop
  | nil : RVs h mem [] []
  | cons {v : Value} {vs : List Value} {V : Val} {Vs : List Val} : RV h mem v V → RVs h mem vs Vs → RVs h mem (v :: vs) (V :: Vs)
end

def isSeqObj (o : Obj) : Prop := ∃ items n, o.data = .seq items n

mutual
theorem RV.mono {h h' : Heap} {mem mem' : Mem} (hk : ∀ b o, h.get? b = some o → mem b = none → isSeqObj o → h'.get? b = some o ∧ mem' b = none) :
    ∀ {v : Value} {V : Val}, RV h mem v V → RV h' mem' v V
  | _, _, .none => .none
  | _, _, .bool b => .bool b
  | _, _, .int i t => .int i t
  | _, _, .str x t => .str x t
  | _, _, .tup e m r => let k := hk _ _ e m ⟨_, _, rfl⟩; .tup k.1 k.2 (RVs.mono hk r)
  | _, _, .lst e m r => let k := hk _ _ e m ⟨_, _, rfl⟩; .lst k.1 k.2 (RVs.mono hk r)
  | _, _, .ref a => .ref a
theorem RVs.mono {h h' : Heap} {mem mem' : Mem} (hk : ∀ b o, h.get? b = some o → mem b = none → isSeqObj o → h'.get? b = some o ∧ mem' b = none) :
    ∀ {vs : List Value} {Vs : List Val}, RVs h mem vs Vs → RVs h' mem' vs Vs
  | _, _, .nil => .nil
  | _, _, .cons a r => .cons (RV.mono hk a) (RVs.mono hk r)
end

section
variable {h : Heap} {mem : Mem} {vs ws : List Value} {Vs Ws : List Val}
theorem RVs.length (r : RVs h mem vs Vs) : vs.length = Vs.length := by
  induction vs generalizing Vs with
  | nil => cases r; rfl
  | cons v vs ih => cases r with | cons _ r => simp [ih r]
theorem RVs.append (r : RVs h mem vs Vs) (q : RVs h mem ws Ws) : RVs h mem (vs ++ ws) (Vs ++ Ws) := by
  induction vs generalizing Vs with
  | nil => cases r; exact q
  | cons v vs ih => cases r with | cons a r => exact .cons a (ih r)
theorem RVs.get (r : RVs h mem vs Vs) {k : Nat} {V : Val} (e : Vs[k]? = some V) : ∃ v, vs[k]? = some v ∧ RV h mem v V := by
  induction vs generalizing Vs k with
  | nil => cases r; simp at e
  | cons v vs ih =>
    cases r with
    | cons a r =>
      cases k with
      | zero => simp at e; subst e; exact ⟨v, rfl, a⟩
      | succ k => simp at e; exact ih r e
theorem RVs.set (r : RVs h mem vs Vs) {k : Nat} {v : Value} {V : Val} (e : RV h mem v V) : RVs h mem (vs.set k v) (Vs.set k V) := by
  induction vs generalizing Vs k with
  | nil => cases r; exact .nil
  | cons u vs ih =>
    cases r with
    | cons a r =>
      cases k with
      | zero => exact .cons e r
      | succ k => exact .cons a (ih r)
theorem RVs.drop (r : RVs h mem vs Vs) (k : Nat) : RVs h mem (vs.drop k) (Vs.drop k) := by
  induction vs generalizing Vs k with
  | nil => cases r; simpa using RVs.nil
  | cons u vs ih =>
    cases r with
    | cons a r =>
      cases k with
      | zero => exact .cons a r
      | succ k => exact ih r k
theorem RVs.take (r : RVs h mem vs Vs) (k : Nat) : RVs h mem (vs.take k) (Vs.take k) := by
  induction vs generalizing Vs k with
  | nil => cases r; simpa using RVs.nil
  | cons u vs ih =>
    cases r with
    | cons a r =>
      cases k with
      | zero => exact .nil
      | succ k => exact .cons a (ih r k)
theorem RVs.snoc (r : RVs h mem vs Vs) {v : Value} {V : Val} (e : RV h mem v V) : RVs h mem (vs ++ [v]) (Vs ++ [V]) := r.append (.cons e .nil)
theorem RVs.reverse (r : RVs h mem vs Vs) : RVs h mem vs.reverse Vs.reverse := by
  induction vs generalizing Vs with
  | nil => cases r; exact .nil
  | cons v vs ih => cases r with | cons a r => simpa using (ih r).snoc a
theorem RVs.ints {ns : List Int} (r : RVs h mem vs (ns.map Val.int)) : IntsAre vs ns := by
  induction vs generalizing ns with
  | nil =>
    cases ns with
    | nil => exact .nil
    | cons n ns => cases r
  | cons v vs ih =>
    cases ns with
    | nil => cases r
    | cons n ns =>
      cases r with
      | cons a r =>
        cases a with
        | int i t => exact .cons _ _ (ih r)
theorem RVs.of_ints {ns : List Int} (r : IntsAre vs ns) : RVs h mem vs (ns.map Val.int) := by
  induction r with
  | nil => exact .nil
  | cons n t r ih => exact .cons (.int _ _) ih
end

structure St where
  mem : Mem
  loc : Str → Option Val

def St.put (σ : St) (a : Addr) (b : Box) : St := { σ with mem := fun c => if c = a then some b else σ.mem c }
def St.set (σ : St) (x : Str) (v : Val) : St := { σ with loc := fun y => if y = x then some v else σ.loc y }

theorem St.put_mem (σ : St) (a : Addr) (b : Box) (c : Addr) : (σ.put a b).mem c = if c = a then some b else σ.mem c := rfl
theorem St.set_mem (σ : St) (x : Str) (v : Val) : (σ.set x v).mem = σ.mem := rfl
theorem St.set_loc (σ : St) (x : Str) (v : Val) (y : Str) : (σ.set x v).loc y = if y = x then some v else σ.loc y := rfl

/-! Contexts -/
structure Base where
  prog : Program
  w : World
  h₁ : Heap
  os : OsState
  mg : Str → Option Value
  mb : Str → Option Value

structure Base.Ok (B : Base) : Prop where
  g : B.h₁.Ns mainGlobals B.mg
  b : B.h₁.Ns builtinsNs B.mb
  boot : ∀ x, x ≠ ("__name__" : Str) → B.mb x = bootBuiltins x
  lim : B.h₁.NoLimit

structure Fm where
  L : Addr
  cells : List (Str × Addr)
  own : List Addr
  qual : Str
  func : Option Addr
  code : Value
  frame : Option Addr

def Fm.env (f : Fm) (sc : Scope) : Env :=
  { scope := sc, locals := f.L, globals := mainGlobals, cells := f.cells, qual := f.qual, func := f.func, code := f.code, frame := f.frame, builtins := builtinsNs }

structure Cx where
  B : Base
  A : Around
  f : Fm
  sc : Scope

abbrev Cx.env (X : Cx) : Env := X.f.env X.sc
abbrev Cx.M (X : Cx) : Model := model X.B.prog X.B.w

structure Cx.Ok (X : Cx) (n : Nat) : Prop where
  base : X.B.Ok
  kind : X.sc.kind = .function
  handled : X.A.handled = none
  depth : X.A.depth + n < recursionLimit
  units : X.A.units + 10 * n + 100 < cLine
  newL : X.B.h₁.get? X.f.L = none
  cellNew : ∀ c ∈ X.f.own, X.B.h₁.get? c = none ∧ c ≠ X.f.L
  cellInj : ∀ x y c, X.f.cells.lookup x = some c → X.f.cells.lookup y = some c → x = y

def IsBox (B : Base) (h : Heap) (mem : Mem) (a : Addr) : Box → Prop
  | .list vs => ∃ items n, IsL h a (List.toArray items) n ∧ RVs h mem items vs
  | .dict kvs => ∃ kvs' : List (Int × Value), h.DictOf (intKind B.prog B.w) a kvs' ∧ kvs'.map (·.1) = kvs.map (·.1) ∧ RVs h mem (kvs'.map (·.2)) (kvs.map (·.2))

def EnvOk (X : Cx) (σ : St) (h : Heap) : Prop :=
  ∃ m, h.Ns X.f.L m ∧ σ.mem X.f.L = none ∧
  (∀ c, (c ∈ X.f.own ∨ ∃ x, (x, c) ∈ X.f.cells) → σ.mem c = none ∧ ∃ v, h.IsCell c v) ∧
  (∀ x V, σ.loc x = some V → (x == ("__debug__" : Str)) = false ∧ ∃ v, RV h σ.mem v V ∧
    ((X.env.kindOf x = some .local ∧ m x = some v) ∨
     (∃ c, X.f.cells.lookup x = some c ∧ h.IsCell c (some v) ∧ σ.mem c = none ∧
       (X.env.kindOf x = some .cell ∨ (X.env.kindOf x = some .free ∧ (x == ("__classdict__" : Str)) = false)))))

structure Rep (X : Cx) (σ : St) (s : Shared) : Prop where
  keep : ∀ b o, X.B.h₁.get? b = some o → s.heap.get? b = some o
  gens : s.gens = #[]
  os : s.os = X.B.os
  mem : ∀ a bx, σ.mem a = some bx → X.B.h₁.get? a = none ∧ IsBox X.B s.heap σ.mem a bx
  env : EnvOk X σ s.heap

structure Ext (X : Cx) (σ : St) (s : Shared) (σ' : St) (s' : Shared) : Prop where
  keep : ∀ b o, s.heap.get? b = some o → σ.mem b = none → b ≠ X.f.L → b ∉ X.f.own → s'.heap.get? b = some o
  mem : ∀ b o, s.heap.get? b = some o → σ.mem b = none → σ'.mem b = none
  live : ∀ b o, s.heap.get? b = some o → ∃ o', s'.heap.get? b = some o'

end Mine
end
section
open PySem PySem.W PyProof.Rows
namespace Mine

section
variable {X : Cx} {σ σ' σ'' : St} {s s' s'' : Shared} {h' : Heap} {t : Nat} {a : Addr} {bx bx' : Box}

theorem IsBox.live {B : Base} {h : Heap} {mem : Mem} (b : IsBox B h mem a bx) : ∃ o, h.get? a = some o ∧ (isSeqObj o ∨ ∃ es n, o.data = .dict es n) := by
  cases bx with
  | list vs => obtain ⟨items, n, e, _⟩ := b; exact ⟨_, e, .inl ⟨_, _, rfl⟩⟩
  | dict kvs => obtain ⟨kvs', ⟨o, es, ep, ho, _, hd, _⟩, _⟩ := b; exact ⟨o, ho, .inr ⟨es, ep, hd⟩⟩

theorem IsBox.mono {B : Base} {h h' : Heap} {mem mem' : Mem} (hk : ∀ b o, h.get? b = some o → mem b = none → isSeqObj o → h'.get? b = some o ∧ mem' b = none)
    (ha : ∀ o, h.get? a = some o → h'.get? a = some o) (b : IsBox B h mem a bx) : IsBox B h' mem' a bx := by
  cases bx with
  | list vs => obtain ⟨items, n, e, r⟩ := b; exact ⟨items, n, ha _ e, r.mono hk⟩
  | dict kvs =>
    obtain ⟨kvs', ⟨o, es, ep, ho, r⟩, e1, e2⟩ := b
    exact ⟨kvs', ⟨o, es, ep, ha _ ho, r⟩, e1, e2.mono hk⟩

/-- the cells and the frame, known again in a heap that keeps them -/
theorem EnvOk.mono {h h' : Heap} (hk : ∀ b o, h.get? b = some o → σ.mem b = none → isSeqObj o → h'.get? b = some o ∧ σ'.mem b = none)
    (hL : ∀ o, h.get? X.f.L = some o → h'.get? X.f.L = some o) (hc : ∀ c v, h.IsCell c v → σ.mem c = none → h'.IsCell c v ∧ σ'.mem c = none)
    (hL' : σ'.mem X.f.L = none) (hloc : ∀ x V, σ'.loc x = some V → σ.loc x = some V) (e : EnvOk X σ h) : EnvOk X σ' h' := by
  obtain ⟨m, hn, _, ho, hl⟩ := e
  refine ⟨m, hn.at' hL, hL', fun c hm => ?_, fun x V hx => ?_⟩
  · obtain ⟨q, v, hv⟩ := ho c hm
    have := hc c v hv q
    exact ⟨this.2, v, this.1⟩
  · obtain ⟨hd, v, rv, hh⟩ := hl x V (hloc x V hx)
    refine ⟨hd, v, rv.mono hk, hh.imp id ?_⟩
    rintro ⟨c, e1, e2, e3, e4⟩
    have := hc c _ e2 e3
    exact ⟨c, e1, this.1, this.2, e4⟩

theorem Rep.isL (R : Rep X σ s) {vs : List Val} (h : σ.mem a = some (.list vs)) : ∃ items n, IsL s.heap a (List.toArray items) n ∧ RVs s.heap σ.mem items vs := (R.mem a _ h).2

theorem Rep.live (R : Rep X σ s) (h : σ.mem a = some bx) : ∃ o, s.heap.get? a = some o := let ⟨o, e, _⟩ := (R.mem a _ h).2.live; ⟨o, e⟩

theorem Rep.fresh (R : Rep X σ s) (h : s.heap.get? a = none) : σ.mem a = none ∧ X.B.h₁.get? a = none := by
  refine ⟨?_, ?_⟩
  · cases e : σ.mem a with
    | none => rfl
    | some bx => obtain ⟨o, ho⟩ := R.live e; rw [h] at ho; cases ho
  · cases e : X.B.h₁.get? a with
    | none => rfl
    | some o => rw [R.keep _ _ e] at h; cases h

theorem Rep.locals_ne (R : Rep X σ s) {o : Obj} (ho : s.heap.get? a = some o) (hd : ∀ es n, o.data ≠ .dict es n) : a ≠ X.f.L := by
  rintro rfl
  obtain ⟨m, ⟨o', es, ep, h1, h2, _⟩, _⟩ := R.env
  rw [ho] at h1; cases h1; exact hd _ _ h2
theorem Rep.own_ne (R : Rep X σ s) {o : Obj} (ho : s.heap.get? a = some o) (hd : ∀ v, o.data ≠ .cell v) : a ∉ X.f.own := by
  intro hm
  obtain ⟨m, _, _, hc, _⟩ := R.env
  obtain ⟨_, v, o', h1, h2⟩ := hc a (.inl hm)
  rw [ho] at h1; cases h1; exact hd _ h2
theorem seq_no_dict {o : Obj} (h : isSeqObj o) (es n) : o.data ≠ .dict es n := by obtain ⟨i, k, e⟩ := h; rw [e]; nofun
theorem seq_no_cell {o : Obj} (h : isSeqObj o) (v) : o.data ≠ .cell v := by obtain ⟨i, k, e⟩ := h; rw [e]; nofun

/-! Ext -/
theorem Ext.refl : Ext X σ s σ s := ⟨fun _ _ e _ _ _ => e, fun _ _ _ e => e, fun _ o e => ⟨o, e⟩⟩
theorem Ext.seq (R : Rep X σ s) (x : Ext X σ s σ' s') : ∀ b o, s.heap.get? b = some o → σ.mem b = none → isSeqObj o → s'.heap.get? b = some o ∧ σ'.mem b = none :=
  fun b o e m q => ⟨x.keep b o e m (R.locals_ne e (seq_no_dict q)) (R.own_ne e (seq_no_cell q)), x.mem b o e m⟩
theorem Ext.rv (x : Ext X σ s σ' s') (R : Rep X σ s) {v : Value} {V : Val} (r : RV s.heap σ.mem v V) : RV s'.heap σ'.mem v V := r.mono (x.seq R)
theorem Ext.rvs (x : Ext X σ s σ' s') (R : Rep X σ s) {v : List Value} {V : List Val} (r : RVs s.heap σ.mem v V) : RVs s'.heap σ'.mem v V := r.mono (x.seq R)
theorem Ext.trans (x : Ext X σ s σ' s') (R' : Rep X σ' s') (y : Ext X σ' s' σ'' s'') : Ext X σ s σ'' s'' := by
  refine ⟨fun b o e m hL ho => y.keep b o (x.keep b o e m hL ho) (x.mem b o e m) hL ho, fun b o e m => ?_, fun b o e => let ⟨o', e'⟩ := x.live b o e; y.live b o' e'⟩
  by_cases hL : b = X.f.L
  · have h1 := x.mem b o e m
    obtain ⟨m', ⟨o', _, _, h2, _⟩, _⟩ := R'.env
    exact y.mem b o' (hL ▸ h2) h1
  · by_cases ho : b ∈ X.f.own
    · have h1 := x.mem b o e m
      obtain ⟨m', _, _, hc, _⟩ := R'.env
      obtain ⟨_, v, o', h2, _⟩ := hc b (.inl ho)
      exact y.mem b o' h2 h1
    · exact y.mem b o (x.keep b o e m hL ho) (x.mem b o e m)

/-- nothing written, things may be new -/
theorem Rep.grow (R : Rep X σ s) (hk : ∀ b o, s.heap.get? b = some o → h'.get? b = some o) : Rep X σ { s with heap := h', toks := t } ∧ Ext X σ s σ { s with heap := h', toks := t } := by
  refine ⟨⟨fun b o e => hk b o (R.keep b o e), R.gens, R.os, fun a bx e => ⟨(R.mem a bx e).1, (R.mem a bx e).2.mono (fun b o e m _ => ⟨hk b o e, m⟩) (hk a)⟩, ?_⟩, ⟨fun b o e _ _ _ => hk b o e, fun _ _ _ e => e, fun b o e => ⟨o, hk b o e⟩⟩⟩
  exact R.env.mono (fun b o e m _ => ⟨hk b o e, m⟩) (hk _) (fun c v ⟨o, e, d⟩ m => ⟨⟨o, hk _ _ e, d⟩, m⟩) (let ⟨_, _, q, _⟩ := R.env; q) (fun _ _ e => e)

theorem Rep.toks (R : Rep X σ s) : Rep X σ { s with toks := t } ∧ Ext X σ s σ { s with toks := t } := R.grow (h' := s.heap) fun _ _ e => e

/-- a thing of the walk's own (an iterator) is written -/
theorem Rep.touch (R : Rep X σ s) {W : Addr → Prop} (hk : ∀ b o, ¬ W b → s.heap.get? b = some o → h'.get? b = some o)
    (hW : ∀ b, W b → X.B.h₁.get? b = none ∧ b ≠ X.f.L ∧ σ.mem b = none ∧ ∀ o, s.heap.get? b = some o → ¬ isSeqObj o ∧ ∀ v, o.data ≠ .cell v) :
    Rep X σ { s with heap := h', toks := t } := by
  have ks : ∀ b o, s.heap.get? b = some o → σ.mem b = none → isSeqObj o → h'.get? b = some o ∧ σ.mem b = none :=
    fun b o e m q => ⟨hk b o (fun w => ((hW b w).2.2.2 o e).1 q) e, m⟩
  refine ⟨fun b o e => hk b o (fun w => ?_) (R.keep b o e), R.gens, R.os, fun a bx e => ⟨(R.mem a bx e).1, (R.mem a bx e).2.mono ks fun o e' => hk a o (fun w => ?_) e'⟩, ?_⟩
  · rw [(hW b w).1] at e; cases e
  · rw [(hW a w).2.2.1] at e; cases e
  · exact R.env.mono ks (fun o e => hk _ o (fun w => (hW _ w).2.1 rfl) e) (fun c v ⟨o, e, d⟩ m => ⟨⟨o, hk _ _ (fun w => ((hW _ w).2.2.2 o e).2 _ d) e, d⟩, m⟩) (let ⟨_, _, q, _⟩ := R.env; q) (fun _ _ e => e)

/-- a new tracked thing -/
theorem Rep.new (R : Rep X σ s) (ha : s.heap.get? a = none) (hk : ∀ b o, s.heap.get? b = some o → h'.get? b = some o) (hb : IsBox X.B h' (σ.put a bx).mem a bx) :
    Rep X (σ.put a bx) { s with heap := h', toks := t } ∧ Ext X σ s (σ.put a bx) { s with heap := h', toks := t } := by
  have ne : ∀ b o, s.heap.get? b = some o → b ≠ a := fun b o e q => by rw [q, ha] at e; cases e
  have pm : ∀ b o, s.heap.get? b = some o → σ.mem b = none → (σ.put a bx).mem b = none := fun b o e m => by rw [St.put_mem, if_neg (ne b o e)]; exact m
  refine ⟨⟨fun b o e => hk b o (R.keep b o e), R.gens, R.os, fun c bc e => ?_, ?_⟩, ⟨fun b o e _ _ _ => hk b o e, pm, fun b o e => ⟨o, hk b o e⟩⟩⟩
  · rw [St.put_mem] at e
    split at e
    · rename_i q; subst q; cases e; exact ⟨(R.fresh ha).2, hb⟩
    · exact ⟨(R.mem c bc e).1, (R.mem c bc e).2.mono (fun b o e m _ => ⟨hk b o e, pm b o e m⟩) (hk c)⟩
  · refine R.env.mono (fun b o e m _ => ⟨hk b o e, pm b o e m⟩) (hk _) (fun c v ⟨o, e, d⟩ m => ⟨⟨o, hk _ _ e, d⟩, pm _ _ e m⟩) ?_ (fun _ _ e => e)
    obtain ⟨m, ⟨o', _, _, h1, _⟩, q, _⟩ := R.env
    exact pm _ _ h1 q

/-- a tracked thing is written -/
theorem Rep.upd (R : Rep X σ s) (ha : σ.mem a = some bx) (hk : ∀ b o, b ≠ a → s.heap.get? b = some o → h'.get? b = some o) (hb : IsBox X.B h' (σ.put a bx').mem a bx') :
    Rep X (σ.put a bx') { s with heap := h', toks := t } ∧ Ext X σ s (σ.put a bx') { s with heap := h', toks := t } := by
  have pm : ∀ b, σ.mem b = none → b ≠ a ∧ (σ.put a bx').mem b = none := fun b m => by
    have : b ≠ a := fun q => by rw [q, ha] at m; cases m
    exact ⟨this, by rw [St.put_mem, if_neg this]; exact m⟩
  have ks : ∀ b o, s.heap.get? b = some o → σ.mem b = none → isSeqObj o → h'.get? b = some o ∧ (σ.put a bx').mem b = none :=
    fun b o e m _ => ⟨hk b o (pm b m).1 e, (pm b m).2⟩
  refine ⟨⟨fun b o e => hk b o (fun q => ?_) (R.keep b o e), R.gens, R.os, fun c bc e => ?_, ?_⟩, ⟨fun b o e m _ _ => hk b o (pm b m).1 e, fun b o _ m => (pm b m).2, fun b o e => ?_⟩⟩
  · have := (R.mem a bx ha).1; rw [q, this] at e; cases e
  · rw [St.put_mem] at e
    split at e
    · rename_i q; subst q; cases e; exact ⟨(R.mem c bx ha).1, hb⟩
    · rename_i q
      exact ⟨(R.mem c bc e).1, (R.mem c bc e).2.mono ks (fun o e' => hk c o q e')⟩
  · obtain ⟨m, ⟨o', _, _, h1, _⟩, q, _⟩ := id R.env
    exact R.env.mono ks (fun o e => hk _ o (pm _ q).1 e) (fun c v ⟨o, e, d⟩ m => ⟨⟨o, hk _ _ (pm c m).1 e, d⟩, (pm c m).2⟩) (pm _ q).2 (fun _ _ e => e)
  · by_cases q : b = a
    · obtain ⟨o', e', _⟩ := hb.live; exact ⟨o', q ▸ e'⟩
    · exact ⟨o, hk b o q e⟩

def St.drop (σ : St) (a : Addr) : St := { σ with mem := fun c => if c = a then none else σ.mem c }
theorem St.drop_mem (σ : St) (a c : Addr) : (σ.drop a).mem c = if c = a then none else σ.mem c := rfl
/-- less is known of the memory -/
theorem Rep.less (R : Rep X σ s) {σ' : St} (hm : ∀ a bx, σ'.mem a = some bx → σ.mem a = some bx) (hl : ∀ x V, σ'.loc x = some V → σ.loc x = some V) : Rep X σ' s := by
  have nn : ∀ b, σ.mem b = none → σ'.mem b = none := fun b m => by
    cases e : σ'.mem b with
    | none => rfl
    | some bx => rw [hm b bx e] at m; cases m
  refine ⟨R.keep, R.gens, R.os, fun a bx e => ⟨(R.mem a bx (hm a bx e)).1, (R.mem a bx (hm a bx e)).2.mono (fun b o e m _ => ⟨e, nn b m⟩) fun _ e => e⟩, ?_⟩
  exact R.env.mono (fun b o e m _ => ⟨e, nn b m⟩) (fun _ e => e) (fun c v e m => ⟨e, nn c m⟩) (let ⟨_, _, q, _⟩ := R.env; nn _ q) hl

theorem Ext.less (x : Ext X σ s σ' s') {σ'' : St} (hm : ∀ a bx, σ''.mem a = some bx → σ'.mem a = some bx) : Ext X σ s σ'' s' :=
  ⟨x.keep, fun b o e m => by
    cases q : σ''.mem b with
    | none => rfl
    | some bx => exact absurd ((x.mem b o e m).symm.trans (hm b bx q)) nofun, x.live⟩

theorem Rep.frozen (R : Rep X σ s) {vs : List Val} (h : σ.mem a = some (.list vs)) : RV s.heap (σ.drop a).mem (.ref a) (.lst vs) := by
  obtain ⟨items, n, e, r⟩ := R.isL h
  refine .lst e (by simp [St.drop_mem]) (r.mono fun b o e m _ => ⟨e, ?_⟩)
  rw [St.drop_mem]; split <;> trivial

/-- a name is bound -/
theorem Rep.setL (R : Rep X σ s) {m : Str → Option Value} {x : Str} {v : Value} {V : Val} (hm : s.heap.Ns X.f.L m)
    (hmm : ∀ y W, σ.loc y = some W → (y == ("__debug__" : Str)) = false ∧ ∃ v, RV s.heap σ.mem v W ∧
      ((X.env.kindOf y = some .local ∧ m y = some v) ∨ (∃ c, X.f.cells.lookup y = some c ∧ s.heap.IsCell c (some v) ∧ σ.mem c = none ∧
       (X.env.kindOf y = some .cell ∨ (X.env.kindOf y = some .free ∧ (y == ("__classdict__" : Str)) = false)))))
    (hk : X.env.kindOf x = some .local) (hd : (x == ("__debug__" : Str)) = false) (rv : RV s.heap σ.mem v V) (newL : X.B.h₁.get? X.f.L = none)
    (hn : h'.Ns X.f.L (fun y => if y = x then some v else m y)) (hs : Heap.SameBut X.f.L s.heap h') :
    Rep X (σ.set x V) { s with heap := h', toks := t } ∧ Ext X σ s (σ.set x V) { s with heap := h', toks := t } := by
  obtain ⟨m', hn', hL, hc, _⟩ := id R.env
  have kp : ∀ b o, b ≠ X.f.L → s.heap.get? b = some o → h'.get? b = some o := fun b o q e => hs.extBut b o q e
  have ks : ∀ b o, s.heap.get? b = some o → σ.mem b = none → isSeqObj o → h'.get? b = some o ∧ σ.mem b = none :=
    fun b o e m q => ⟨kp b o (R.locals_ne e (seq_no_dict q)) e, m⟩
  have kc : ∀ c v, s.heap.IsCell c v → h'.IsCell c v := fun c v ⟨o, e, d⟩ => ⟨o, kp _ _ (R.locals_ne e (fun es n q => by rw [d] at q; cases q)) e, d⟩
  refine ⟨⟨fun b o e => kp b o (fun q => by rw [q, newL] at e; cases e) (R.keep b o e), R.gens, R.os, fun a bx e => ⟨(R.mem a bx e).1, (R.mem a bx e).2.mono ks fun o e' => kp a o (fun q => ?_) e'⟩, ?_⟩,
    ⟨fun b o e _ q _ => kp b o q e, fun _ _ _ e => e, fun b o e => ?_⟩⟩
  · rw [q] at e; exact absurd (hL.symm.trans e) nofun
  · refine ⟨_, hn, hL, fun c hm' => ⟨(hc c hm').1, let ⟨v, hv⟩ := (hc c hm').2; ⟨v, kc c v hv⟩⟩, fun y W hy => ?_⟩
    rw [St.set_loc] at hy
    by_cases q : y = x
    · subst q
      rw [if_pos rfl] at hy; cases hy
      exact ⟨hd, v, rv.mono ks, .inl ⟨hk, by simp⟩⟩
    · rw [if_neg q] at hy
      obtain ⟨h1, u, ru, h2⟩ := hmm y W hy
      refine ⟨h1, u, ru.mono ks, ?_⟩
      rcases h2 with ⟨k1, k2⟩ | ⟨c, e1, e2, e3⟩
      · exact .inl ⟨k1, by simp [q, k2]⟩
      · exact .inr ⟨c, e1, kc _ _ e2, e3⟩
  · by_cases q : b = X.f.L
    · obtain ⟨o', _, _, e', _⟩ := hn; exact ⟨o', q ▸ e'⟩
    · exact ⟨o, kp b o q e⟩

theorem Rep.setC (R : Rep X σ s) {x : Str} {v : Value} {V : Val} {c : Addr} {v₀ : Option Value}
    (hk : X.env.kindOf x = some .cell) (hc : X.f.cells.lookup x = some c) (ho : c ∈ X.f.own) (inj : ∀ x y c, X.f.cells.lookup x = some c → X.f.cells.lookup y = some c → x = y)
    (hd : (x == ("__debug__" : Str)) = false) (rv : RV s.heap σ.mem v V) (newC : X.B.h₁.get? c = none)
    (h0 : s.heap.IsCell c v₀) (hn : h'.IsCell c (some v)) (hs : Heap.SameBut c s.heap h') :
    Rep X (σ.set x V) { s with heap := h', toks := t } ∧ Ext X σ s (σ.set x V) { s with heap := h', toks := t } := by
  obtain ⟨m, hm, hL, hcs, hl⟩ := id R.env
  obtain ⟨oc, hoc, hdc⟩ := h0
  have kp : ∀ b o, b ≠ c → s.heap.get? b = some o → h'.get? b = some o := fun b o q e => hs.extBut b o q e
  have cs : ∀ b o, s.heap.get? b = some o → isSeqObj o → b ≠ c := fun b o e q z => by rw [z, hoc] at e; cases e; exact seq_no_cell q _ hdc
  have ks : ∀ b o, s.heap.get? b = some o → σ.mem b = none → isSeqObj o → h'.get? b = some o ∧ σ.mem b = none := fun b o e m q => ⟨kp b o (cs b o e q) e, m⟩
  have hLc : X.f.L ≠ c := fun q => R.locals_ne hoc (fun es n z => by rw [hdc] at z; cases z) q.symm
  refine ⟨⟨fun b o e => kp b o (fun q => by rw [q, newC] at e; cases e) (R.keep b o e), R.gens, R.os, fun a bx e => ⟨(R.mem a bx e).1, (R.mem a bx e).2.mono ks fun o e' => kp a o (fun q => ?_) e'⟩, ?_⟩,
    ⟨fun b o e _ _ q => kp b o (fun z => q (z ▸ ho)) e, fun _ _ _ e => e, fun b o e => ?_⟩⟩
  · rw [q] at e; exact absurd ((hcs c (.inl ho)).1.symm.trans e) nofun
  · refine ⟨m, hm.at' fun o e => kp _ o hLc e, hL, fun d hd' => ⟨(hcs d hd').1, ?_⟩, fun y W hy => ?_⟩
    · by_cases q : d = c
      · subst q; exact ⟨_, hn⟩
      · obtain ⟨v', o', e', d'⟩ := (hcs d hd').2; exact ⟨v', o', kp _ _ q e', d'⟩
    · rw [St.set_loc] at hy
      by_cases q : y = x
      · subst q
        rw [if_pos rfl] at hy; cases hy
        exact ⟨hd, v, rv.mono ks, .inr ⟨c, hc, hn, (hcs c (.inl ho)).1, .inl hk⟩⟩
      · rw [if_neg q] at hy
        obtain ⟨h1, u, ru, h2⟩ := hl y W hy
        refine ⟨h1, u, ru.mono ks, ?_⟩
        rcases h2 with k | ⟨d, e1, ⟨o', e', d'⟩, e3⟩
        · exact .inl k
        · exact .inr ⟨d, e1, ⟨o', kp _ _ (fun z => q (inj _ _ _ e1 (z ▸ hc))) e', d'⟩, e3⟩
  · by_cases q : b = c
    · obtain ⟨o', e', _⟩ := hn; exact ⟨o', q ▸ e'⟩
    · exact ⟨o, kp b o q e⟩
end

/-! Triples -/
def Ta {α β : Type} (X : Cx) (rel : Heap → Mem → α → β → Prop) (t : Sem α) (σ : St) (s : Shared) (Q : β → St → Prop) : Prop :=
  wpAny X.M X.A t (fun a s' => ∃ b σ', rel s'.heap σ'.mem a b ∧ Rep X σ' s' ∧ Ext X σ s σ' s' ∧ Q b σ') (fun _ _ => False) s
def T {α β : Type} (X : Cx) (rel : Heap → Mem → α → β → Prop) (t : Sem α) (σ : St) (Q : β → St → Prop) : Prop := ∀ s, Rep X σ s → Ta X rel t σ s Q

section
variable {α β γ δ : Type} {X : Cx} {rel : Heap → Mem → α → β → Prop} {rel' : Heap → Mem → γ → δ → Prop} {σ : St} {s : Shared}

theorem Ta.bind {t : Sem α} {f : α → Sem γ} {P : β → St → Prop} {Q : δ → St → Prop} (h : Ta X rel t σ s P)
    (k : ∀ a b σ' s', rel s'.heap σ'.mem a b → Rep X σ' s' → Ext X σ s σ' s' → P b σ' → Ta X rel' (f a) σ' s' Q) : Ta X rel' (t >>= f) σ s Q := by
  refine wpAny_bind (wpAny_mono h (fun a s' hh => ?_) fun _ _ e => e)
  obtain ⟨b, σ', hr, R, x, hp⟩ := hh
  refine wpAny_mono (k a b σ' s' hr R x hp) (fun c s'' hh => ?_) fun _ _ e => e
  obtain ⟨d, σ'', hr', R', x', hq⟩ := hh
  exact ⟨d, σ'', hr', R', x.trans R x', hq⟩

theorem Ta.mono {t : Sem α} {P Q : β → St → Prop} (h : Ta X rel t σ s P) (k : ∀ b σ', P b σ' → Q b σ') : Ta X rel t σ s Q :=
  wpAny_mono h (fun _ _ ⟨b, σ', hr, R, x, hp⟩ => ⟨b, σ', hr, R, x, k b σ' hp⟩) fun _ _ e => e
theorem T.mono {t : Sem α} {P Q : β → St → Prop} (h : T X rel t σ P) (k : ∀ b σ', P b σ' → Q b σ') : T X rel t σ Q := fun s R => (h s R).mono k

theorem Ta.pure {a : α} {b : β} {Q : β → St → Prop} (R : Rep X σ s) (hr : rel s.heap σ.mem a b) (h : Q b σ) : Ta X rel (pure a) σ s Q :=
  wpAny_pure ⟨b, σ, hr, R, .refl, h⟩

/-- what a walked tree is worth where the state has moved on without a trace -/
theorem Ta.then {t : Sem α} {P : β → St → Prop} {σ' : St} {s' : Shared} (h : Ta X rel t σ' s' P) (R' : Rep X σ' s') (x : Ext X σ s σ' s') :
    wpAny X.M X.A t (fun a s'' => ∃ b σ'', rel s''.heap σ''.mem a b ∧ Rep X σ'' s'' ∧ Ext X σ s σ'' s'' ∧ P b σ'') (fun _ _ => False) s' :=
  wpAny_mono h (fun _ _ ⟨b, σ'', hr, R'', x'', hp⟩ => ⟨b, σ'', hr, R'', x.trans R' x'', hp⟩) fun _ _ e => e
end

inductive Fl where
  | next | brk | cont
  | ret (v : Val)

inductive RF (h : Heap) (mem : Mem) : Flow → Fl → Prop
  | next : RF h mem .next .next
  | brk : RF h mem .brk .brk
  | cont : RF h mem .cont .cont
  | ret {v : Value} {V : Val} : RV h mem v V → RF h mem (.ret v) (.ret V)

abbrev eqR {α : Type} : Heap → Mem → α → α → Prop := fun _ _ a b => a = b

abbrev AE (X : Cx) (e : Expr) (σ : St) (Q : Val → St → Prop) : Prop := T X RV (eval e X.env) σ Q
abbrev AT (X : Cx) (e : Expr) (σ : St) (Q : Bool → St → Prop) : Prop := T X (eqR (α := Bool)) (isTrue e X.env (eval e X.env)) σ Q
abbrev AX (X : Cx) (st : Stmt) (σ : St) (Q : Fl → St → Prop) : Prop := T X RF (exec st X.env) σ Q
abbrev AS (X : Cx) (ss : List Stmt) (σ : St) (Q : Fl → St → Prop) : Prop := T X RF (execs ss X.env) σ Q

end Mine
end
section
open PySem PySem.W PyProof.Rows PySem.Calls
namespace Mine
theorem sz {n : Nat} (h : n ≤ 16777216) : n ≤ sizeLine := Nat.le_trans h (by decide)

section
variable {X : Cx} {σ : St} {s : Shared} {n : Nat} {Q : Val → St → Prop}

theorem AE_int {i : Int} {k : Nat} {pos : Pos} (h : Q (.int i) σ) : AE X (.Constant (.int i) k pos) σ Q := fun s R => by
  have g := R.toks (t := s.toks + 1)
  exact wpAny_Constant_int ⟨_, σ, .int _ _, g.1, g.2, h⟩
theorem AE_none {k : Nat} {pos : Pos} (h : Q .none σ) : AE X (.Constant .none k pos) σ Q := fun _ R => wpAny_Constant_none ⟨_, σ, .none, R, .refl, h⟩
theorem load_name (ok : X.Ok n) (R : Rep X σ s) {x : Str} {V : Val} (hx : σ.loc x = some V) {E : Value → Shared → Prop} {P : Value → Shared → Prop} (h : ∀ v, RV s.heap σ.mem v V → P v s) :
    wpAny X.M X.A (loadName X.env x) P E s := by
  obtain ⟨m, hn, _, _, hl⟩ := R.env
  obtain ⟨_, v, rv, hh⟩ := hl x V hx
  rcases hh with ⟨hk, hm⟩ | ⟨c, hc, hv, _, hk | ⟨hk, hcd⟩⟩
  · exact wpAny_loadName_local ok.kind hk hn hm (h v rv)
  · exact wpAny_loadName_cell ok.kind hk hc hv (h v rv)
  · exact wpAny_loadName_free ok.kind hk hc hv (h v rv) hcd

theorem AE_name (ok : X.Ok n) {x : Str} {pos : Pos} {V : Val} (hx : σ.loc x = some V) (h : Q V σ) : AE X (.Name x pos) σ Q := fun s R => by
  have hd : (x == ("__debug__" : Str)) = false := by
    obtain ⟨m, hn, _, _, hl⟩ := R.env
    exact (hl x V hx).1
  exact wpAny_Name (load_name ok R hx fun v rv => ⟨V, σ, rv, R, .refl, h⟩) hd

/-! operators -/
def Op2 (X : Cx) (op : Operator) (a b : Val) (σ : St) (Q : Val → St → Prop) : Prop :=
  ∀ s va vb, Rep X σ s → RV s.heap σ.mem va a → RV s.heap σ.mem vb b → Ta X RV (binaryOp op va vb) σ s Q
def Cmp2 (X : Cx) (op : CmpOp) (a b : Val) (σ : St) (Q : Bool → St → Prop) : Prop :=
  ∀ s va vb, Rep X σ s → RV s.heap σ.mem va a → RV s.heap σ.mem vb b → Ta X RV (compareOp op va vb) σ s (fun V σ' => ∃ b, V = .bool b ∧ Q b σ')

theorem AE_bin {l r : Expr} {op : Operator} {pos : Pos} (h : AE X l σ (fun a σ1 => AE X r σ1 (fun b σ2 => Op2 X op a b σ2 Q))) : AE X (.BinOp l op r pos) σ Q := fun s R => by
  refine wpAny_BinOp (wpAny_mono (h s R) ?_ fun _ _ e => e)
  rintro va s1 ⟨a, σ1, ra, R1, x1, hk⟩
  refine wpAny_mono (hk s1 R1) ?_ fun _ _ e => e
  rintro vb s2 ⟨b, σ2, rb, R2, x2, hk2⟩
  exact (hk2 s2 va vb R2 (x2.rv R1 ra) rb).then R2 (x1.trans R1 x2)

theorem RV.int_inv {h : Heap} {mem : Mem} {v : Value} {i : Int} (r : RV h mem v (.int i)) : ∃ t, v = .int i t := by cases r; exact ⟨_, rfl⟩
theorem RV.bool_inv {h : Heap} {mem : Mem} {v : Value} {b : Bool} (r : RV h mem v (.bool b)) : v = .bool b := by cases r; rfl
theorem RV.none_inv {h : Heap} {mem : Mem} {v : Value} (r : RV h mem v .none) : v = .none := by cases r; rfl

section
variable {i j : Int}
theorem toksQ {V : Val} (R : Rep X σ s) {k : Nat} {v : Value} (rv : RV s.heap σ.mem v V) (h : Q V σ) : ∃ b σ', RV ({ s with toks := k } : Shared).heap σ'.mem v b ∧ Rep X σ' { s with toks := k } ∧ Ext X σ s σ' { s with toks := k } ∧ Q b σ' :=
  ⟨V, σ, rv, (R.toks (t := k)).1, (R.toks (t := k)).2, h⟩

theorem Op_add (h : Q (.int (i + j)) σ) : Op2 X .Add (.int i) (.int j) σ Q := fun s va vb R ra rb => by
  obtain ⟨t, rfl⟩ := ra.int_inv; obtain ⟨u, rfl⟩ := rb.int_inv
  exact PyProof.Rows.add_int (toksQ R (.int _ _) h)
theorem Op_sub (h : Q (.int (i - j)) σ) : Op2 X .Sub (.int i) (.int j) σ Q := fun s va vb R ra rb => by
  obtain ⟨t, rfl⟩ := ra.int_inv; obtain ⟨u, rfl⟩ := rb.int_inv
  exact PyProof.Rows.sub_int (toksQ R (.int _ _) h)
theorem Op_mul (hm : IntMulOk i j) (h : Q (.int (i * j)) σ) : Op2 X .Mult (.int i) (.int j) σ Q := fun s va vb R ra rb => by
  obtain ⟨t, rfl⟩ := ra.int_inv; obtain ⟨u, rfl⟩ := rb.int_inv
  exact PyProof.Rows.mul_int (toksQ R (.int _ _) h) hm
theorem Op_mod (hj : j ≠ 0) (h : Q (.int (i.fmod j)) σ) : Op2 X .Mod (.int i) (.int j) σ Q := fun s va vb R ra rb => by
  obtain ⟨t, rfl⟩ := ra.int_inv; obtain ⟨u, rfl⟩ := rb.int_inv
  exact PyProof.Rows.mod_int' hj (toksQ R (.int _ _) h)
theorem Op_div (hj : j ≠ 0) (hp : Builtin.divisionGoesByPylong i j = false) (h : Q (.int (i.fdiv j)) σ) : Op2 X .FloorDiv (.int i) (.int j) σ Q := fun s va vb R ra rb => by
  obtain ⟨t, rfl⟩ := ra.int_inv; obtain ⟨u, rfl⟩ := rb.int_inv
  exact PyProof.Rows.floordiv_int hj (toksQ R (.int _ _) h) (.inl hp)
theorem Op_rshift (hj : 0 ≤ j) (h : Q (.int (i.fdiv (2 ^ j.toNat))) σ) : Op2 X .RShift (.int i) (.int j) σ Q := fun s va vb R ra rb => by
  obtain ⟨t, rfl⟩ := ra.int_inv; obtain ⟨u, rfl⟩ := rb.int_inv
  exact PyProof.Rows.rshift_int hj (toksQ R (.int _ _) h)
end

/-! comparisons of ints, of None -/
section
variable {i j : Int} {P : Bool → St → Prop}
theorem boolQ (R : Rep X σ s) {b : Bool} (h : P b σ) : ∃ (V : Val) (σ' : St), RV s.heap σ'.mem (.bool b) V ∧ Rep X σ' s ∧ Ext X σ s σ' s ∧ ∃ c, V = .bool c ∧ P c σ' :=
  ⟨_, σ, .bool b, R, .refl, b, rfl, h⟩
theorem Cmp_lt (h : P (decide (i < j)) σ) : Cmp2 X .Lt (.int i) (.int j) σ P := fun s va vb R ra rb => by
  obtain ⟨t, rfl⟩ := ra.int_inv; obtain ⟨u, rfl⟩ := rb.int_inv
  exact PyProof.Rows.lt_int (boolQ R h)
theorem Cmp_gt (h : P (decide (j < i)) σ) : Cmp2 X .Gt (.int i) (.int j) σ P := fun s va vb R ra rb => by
  obtain ⟨t, rfl⟩ := ra.int_inv; obtain ⟨u, rfl⟩ := rb.int_inv
  exact PyProof.Rows.gt_int (boolQ R h)
def Val.isNone : Val → Bool
  | .none => true
  | _ => false
theorem RV.isNone {h : Heap} {mem : Mem} {v : Value} {V : Val} (r : RV h mem v V) : (v == Value.none) = V.isNone := by cases r <;> rfl
theorem Cmp_is {V : Val} (h : P V.isNone σ) : Cmp2 X .Is V .none σ P := fun s va vb R ra rb => by
  obtain rfl := rb.none_inv
  refine is_none (boolQ R ?_)
  rwa [ra.isNone]
theorem Cmp_isnot {V : Val} (h : P (!V.isNone) σ) : Cmp2 X .IsNot V .none σ P := fun s va vb R ra rb => by
  obtain rfl := rb.none_inv
  refine isNot_none (boolQ R ?_)
  rwa [ra.isNone]
end

theorem AE_cmp {l r : Expr} {op : CmpOp} {pos : Pos} (hm : behindInMarks op r = false) (h : AE X l σ (fun a σ1 => AE X r σ1 (fun b σ2 => Cmp2 X op a b σ2 (fun b σ3 => Q (.bool b) σ3)))) : AE X (.Compare l [op] [r] pos) σ Q := fun s R => by
  refine wpAny_Compare1 (wpAny_mono (h s R) ?_ fun _ _ e => e) hm
  rintro va s1 ⟨a, σ1, ra, R1, x1, hk⟩
  refine wpAny_mono (hk s1 R1) ?_ fun _ _ e => e
  rintro vb s2 ⟨b, σ2, rb, R2, x2, hk2⟩
  refine wpAny_mono ((hk2 s2 va vb R2 (x2.rv R1 ra) rb).then R2 (x1.trans R1 x2)) ?_ fun _ _ e => e
  rintro v s3 ⟨V, σ3, rv, R3, x3, c, rfl, q⟩
  exact ⟨_, σ3, rv, R3, x3, q⟩

section
variable {P : Bool → St → Prop}
theorem AT_cmp {l r : Expr} {op : CmpOp} {pos : Pos} (hm : behindInMarks op r = false) (h : AE X l σ (fun a σ1 => AE X r σ1 (fun b σ2 => Cmp2 X op a b σ2 P))) : AT X (.Compare l [op] [r] pos) σ P := fun s R => by
  refine wpAny_isTrue_Compare1 (wpAny_mono (h s R) ?_ fun _ _ e => e) hm
  rintro va s1 ⟨a, σ1, ra, R1, x1, hk⟩
  refine wpAny_mono (hk s1 R1) ?_ fun _ _ e => e
  rintro vb s2 ⟨b, σ2, rb, R2, x2, hk2⟩
  refine wpAny_mono ((hk2 s2 va vb R2 (x2.rv R1 ra) rb).then R2 (x1.trans R1 x2)) ?_ fun _ _ e => e
  rintro v s3 ⟨V, σ3, rv, R3, x3, c, rfl, q⟩
  obtain rfl := rv.bool_inv
  exact wpAny_truthy_bool ⟨c, σ3, rfl, R3, x3, q⟩

theorem AT_not {e : Expr} {pos : Pos} (h : AT X e σ (fun b σ1 => P (!b) σ1)) : AT X (.UnaryOp .Not e pos) σ P := fun s R => by
  refine wpAny_isTrue_Not (wpAny_mono (h s R) ?_ fun _ _ e => e)
  rintro b s1 ⟨c, σ1, rfl, R1, x1, q⟩
  exact ⟨_, σ1, rfl, R1, x1, q⟩
theorem AT_and {x y : Expr} {pos : Pos} (h : AT X x σ (fun b σ1 => (b = true → AT X y σ1 P) ∧ (b = false → P false σ1))) : AT X (.BoolOp .And [x, y] pos) σ P := fun s R => by
  refine wpAny_isTrue_BoolOp (wpAny_allTrue_And_cons (wpAny_mono (h s R) ?_ fun _ _ e => e))
  rintro b s1 ⟨c, σ1, rfl, R1, x1, q⟩
  cases b with
  | false => exact ⟨false, σ1, rfl, R1, x1, q.2 rfl⟩
  | true =>
    refine wpAny_allTrue_And_cons (wpAny_mono ((q.1 rfl s1 R1).then R1 x1) ?_ fun _ _ e => e)
    rintro b s2 ⟨c, σ2, rfl, R2, x2, q⟩
    cases b with
    | false => exact ⟨false, σ2, rfl, R2, x2, q⟩
    | true => exact wpAny_allTrue_And_nil ⟨true, σ2, rfl, R2, x2, q⟩
theorem AT_or {x y : Expr} {pos : Pos} (h : AT X x σ (fun b σ1 => (b = true → P true σ1) ∧ (b = false → AT X y σ1 P))) : AT X (.BoolOp .Or [x, y] pos) σ P := fun s R => by
  refine wpAny_isTrue_BoolOp (wpAny_allTrue_Or_cons (wpAny_mono (h s R) ?_ fun _ _ e => e))
  rintro b s1 ⟨c, σ1, rfl, R1, x1, q⟩
  cases b with
  | true => exact ⟨true, σ1, rfl, R1, x1, q.1 rfl⟩
  | false =>
    refine wpAny_allTrue_Or_cons (wpAny_mono ((q.2 rfl s1 R1).then R1 x1) ?_ fun _ _ e => e)
    rintro b s2 ⟨c, σ2, rfl, R2, x2, q⟩
    cases b with
    | true => exact ⟨true, σ2, rfl, R2, x2, q⟩
    | false => exact wpAny_allTrue_Or_nil ⟨false, σ2, rfl, R2, x2, q⟩

/-- a plain value's truth -/
def Tru (X : Cx) (a : Val) (σ : St) (P : Bool → St → Prop) : Prop := ∀ s va, Rep X σ s → RV s.heap σ.mem va a → Ta X (eqR (α := Bool)) (truthy va) σ s P
theorem AT_val {e : Expr} (h : AE X e σ (fun a σ1 => Tru X a σ1 P))
    (he : ∀ whole, PySem.isTrue e X.env whole = (do let v ← whole; standAt e.pos; holding [v] (truthy v))) : AT X e σ P := fun s R => by
  refine wpAny_isTrue_value (wpAny_mono (h s R) ?_ fun _ _ e => e) (he _)
  rintro va s1 ⟨a, σ1, ra, R1, x1, hk⟩
  exact (hk s1 va R1 ra).then R1 x1
end

theorem AE_neg {e : Expr} {pos : Pos} (h : AE X e σ (fun a σ1 => ∃ i, a = .int i ∧ Q (.int (-i)) σ1)) : AE X (.UnaryOp .USub e pos) σ Q := fun s R => by
  refine wpAny_UnaryOp (wpAny_mono (h s R) ?_ fun _ _ e => e)
  rintro va s1 ⟨a, σ1, ra, R1, x1, i, rfl, q⟩
  obtain ⟨t, rfl⟩ := ra.int_inv
  refine P.neg_int ?_
  exact ⟨_, σ1, .int _ _, (R1.toks (t := _)).1, x1.trans R1 (R1.toks (t := _)).2, q⟩

theorem AE_ifexp {t b o : Expr} {pos : Pos} (h : AT X t σ (fun c σ1 => (c = true → AE X b σ1 Q) ∧ (c = false → AE X o σ1 Q))) : AE X (.IfExp t b o pos) σ Q := fun s R => by
  refine wpAny_IfExp (wpAny_mono (h s R) ?_ fun _ _ e => e)
  rintro c s1 ⟨d, σ1, rfl, R1, x1, q⟩
  cases c with
  | true => exact (q.1 rfl s1 R1).then R1 x1
  | false => exact (q.2 rfl s1 R1).then R1 x1
end

/-! several expressions -/
def AEs (X : Cx) (pos : Pos) (es : List Expr) (σ : St) (Q : List Val → St → Prop) : Prop := T X RVs (spliced (backTo pos (starEach es X.env))) σ Q
section
variable {X : Cx} {σ : St} {n : Nat} {pos : Pos}
theorem AEs_nil {Q : List Val → St → Prop} (h : Q [] σ) : AEs X pos [] σ Q := fun _ R => wpAny_items_nil ⟨_, σ, .nil, R, .refl, h⟩
theorem AEs_cons {e : Expr} {rest : List Expr} {Q : List Val → St → Prop} (he : starEach (e :: rest) X.env = (false, eval e X.env) :: starEach rest X.env)
    (h : AE X e σ (fun V σ1 => AEs X pos rest σ1 (fun Vs σ2 => Q (V :: Vs) σ2))) : AEs X pos (e :: rest) σ Q := fun s R => by
  refine wpAny_items_cons (wpAny_mono (h s R) ?_ fun _ _ e => e) he
  rintro v s1 ⟨V, σ1, rv, R1, x1, hk⟩
  refine wpAny_mono (hk s1 R1) ?_ fun _ _ e => e
  rintro vs s2 ⟨Vs, σ2, rvs, R2, x2, q⟩
  exact ⟨_, σ2, .cons (x2.rv R1 rv) rvs, R2, x1.trans R1 x2, q⟩

theorem AE_tuple {es : List Expr} {k : Nat} {Q : Val → St → Prop} (h : AEs X pos es σ (fun Vs σ1 => Vs.length ≤ 16777216 ∧ Q (.tup Vs) σ1)) : AE X (.Tuple es k pos) σ Q := fun s R => by
  refine wpAny_Tuple (wpAny_mono (h s R) ?_ fun _ _ e => e)
  rintro vs s1 ⟨Vs, σ1, rvs, R1, x1, hl, q⟩
  refine ⟨by rw [rvs.length]; exact hl, ?_⟩
  have fr : s1.heap.get? s1.heap.objs.size = none := by
    cases e : s1.heap.get? s1.heap.objs.size with
    | none => rfl
    | some o => exact absurd (Heap.lt_size e) (Nat.lt_irrefl _)
  have g := R1.grow (h' := s1.heap.push { cls := .type "tuple", data := .seq vs.toArray }) (t := s1.toks) fun b o e => Heap.get?_push_of_some _ e
  exact ⟨_, σ1, .tup (n := 0) (Heap.get?_push_size _ rfl) (R1.fresh fr).1 (g.2.rvs R1 rvs), g.1, x1.trans R1 g.2, q⟩
end

/-! new lists: tracked, then frozen -/
theorem heap_top_none (h : Heap) : h.get? h.objs.size = none := by
  cases e : h.get? h.objs.size with
  | none => rfl
  | some o => exact absurd (Heap.lt_size e) (Nat.lt_irrefl _)

/-- a list that was just made at a: how the states go on, tracked -/
theorem made_tracked {X : Cx} {σ : St} {s : Shared} {h' : Heap} {t : Nat} {a : Addr} {items : List Value} {k : Nat} {Vs : List Val} (R : Rep X σ s) (ha : s.heap.get? a = none)
    (hk : ∀ b o, s.heap.get? b = some o → h'.get? b = some o) (hl : IsL h' a items.toArray k) (rvs : RVs s.heap σ.mem items Vs) :
    σ.mem a = none ∧ Rep X (σ.put a (.list Vs)) { s with heap := h', toks := t } ∧ Ext X σ s (σ.put a (.list Vs)) { s with heap := h', toks := t } := by
  refine ⟨(R.fresh ha).1, R.new ha hk ⟨items, k, hl, rvs.mono fun b o e m _ => ⟨hk b o e, ?_⟩⟩⟩
  rw [St.put_mem, if_neg (fun q => by rw [q, ha] at e; cases e)]; exact m
theorem made_frozen {X : Cx} {σ : St} {s : Shared} {h' : Heap} {t : Nat} {a : Addr} {items : List Value} {k : Nat} {Vs : List Val} (R : Rep X σ s) (ha : s.heap.get? a = none)
    (hk : ∀ b o, s.heap.get? b = some o → h'.get? b = some o) (hl : IsL h' a items.toArray k) (rvs : RVs s.heap σ.mem items Vs) :
    RV h' σ.mem (.ref a) (.lst Vs) ∧ Rep X σ { s with heap := h', toks := t } ∧ Ext X σ s σ { s with heap := h', toks := t } := by
  have g := R.grow (t := t) hk
  exact ⟨.lst hl (R.fresh ha).1 (g.2.rvs R rvs), g⟩

/-- the two ways to take a new list: kept to be written, or not -/
inductive Made (σ : St) (Vs : List Val) (Q : Val → St → Prop) : Prop
  | frozen (h : Q (.lst Vs) σ) : Made σ Vs Q
  | tracked (h : ∀ a, σ.mem a = none → Q (.ref a) (σ.put a (.list Vs))) : Made σ Vs Q

theorem Made.take {X : Cx} {σ : St} {s : Shared} {h' : Heap} {t : Nat} {a : Addr} {items : List Value} {k : Nat} {Vs : List Val} {Q : Val → St → Prop} (M : Made σ Vs Q) (R : Rep X σ s) (ha : s.heap.get? a = none)
    (hk : ∀ b o, s.heap.get? b = some o → h'.get? b = some o) (hl : IsL h' a items.toArray k) (rvs : RVs s.heap σ.mem items Vs) :
    ∃ V σ', RV h' σ'.mem (.ref a) V ∧ Rep X σ' { s with heap := h', toks := t } ∧ Ext X σ s σ' { s with heap := h', toks := t } ∧ Q V σ' := by
  cases M with
  | frozen h => obtain ⟨r, g⟩ := made_frozen (t := t) R ha hk hl rvs; exact ⟨_, σ, r, g.1, g.2, h⟩
  | tracked h => obtain ⟨m, g⟩ := made_tracked (t := t) R ha hk hl rvs; exact ⟨_, _, .ref a, g.1, g.2, h a m⟩

section
variable {X : Cx} {σ : St} {n : Nat} {pos : Pos} {Q : Val → St → Prop}
theorem AE_list {es : List Expr} (h : AEs X pos es σ (fun Vs σ1 => Vs.length ≤ 16777216 ∧ Made σ1 Vs Q)) : AE X (.List es pos) σ Q := fun s R => by
  refine wpAny_List (wpAny_mono (h s R) ?_ fun _ _ e => e)
  rintro vs s1 ⟨Vs, σ1, rvs, R1, x1, hl, q⟩
  refine ⟨by rw [rvs.length]; exact hl, ?_⟩
  obtain ⟨V, σ', r, R', x', q'⟩ := q.take (t := s1.toks) R1 (heap_top_none _) (fun b o e => Heap.get?_push_of_some _ e) (Heap.get?_push_size (o := { cls := .type "list", data := .seq vs.toArray }) _ rfl) rvs
  exact ⟨V, σ', r, R', x1.trans R1 x', q'⟩
end

/-! lists, seen through -/
def SeqOf (σ : St) (V : Val) (vs : List Val) : Prop := V = .lst vs ∨ ∃ a, V = .ref a ∧ σ.mem a = some (.list vs)
theorem SeqOf.lst {σ : St} {vs : List Val} : SeqOf σ (.lst vs) vs := .inl rfl
theorem SeqOf.ref {σ : St} {a : Addr} {vs : List Val} (h : σ.mem a = some (.list vs)) : SeqOf σ (.ref a) vs := .inr ⟨a, rfl, h⟩
theorem SeqOf.open {X : Cx} {σ : St} {s : Shared} {V : Val} {vs : List Val} (q : SeqOf σ V vs) (R : Rep X σ s) {v : Value} (r : RV s.heap σ.mem v V) :
    ∃ a items k, v = .ref a ∧ IsL s.heap a (List.toArray items) k ∧ RVs s.heap σ.mem items vs := by
  rcases q with rfl | ⟨a, rfl, h⟩
  · cases r with
    | lst e m r => exact ⟨_, _, _, rfl, e, r⟩
  · cases r with
    | ref a => obtain ⟨items, k, e, r⟩ := R.isL h; exact ⟨a, items, k, rfl, e, r⟩
theorem RV.tup_inv {h : Heap} {mem : Mem} {v : Value} {vs : List Val} (r : RV h mem v (.tup vs)) : ∃ a items k, v = .ref a ∧ IsT h a (List.toArray items) k ∧ mem a = Option.none ∧ RVs h mem items vs := by
  cases r with
  | tup e m r => exact ⟨_, _, _, rfl, e, m, r⟩

section
variable {X : Cx} {σ : St} {n : Nat} {pos : Pos} {Q : Val → St → Prop}

theorem Op_addList {A B : Val} {as bs : List Val} (ha : SeqOf σ A as) (hb : SeqOf σ B bs) (hl : as.length + bs.length ≤ 16777216) (h : Made σ (as ++ bs) Q) : Op2 X .Add A B σ Q := fun s va vb R ra rb => by
  obtain ⟨a, ia, ka, rfl, ea, rva⟩ := ha.open R ra
  obtain ⟨b, ib, kb, rfl, eb, rvb⟩ := hb.open R rb
  refine P.add_list ea eb ?_ (sz (by simpa [rva.length, rvb.length] using hl))
  exact h.take (t := s.toks) R (heap_top_none _) (fun b o e => Heap.get?_push_of_some _ e) (items := ia ++ ib) (k := 0)
    (by simpa using Heap.get?_push_size (o := { cls := .type "list", data := .seq (ia.toArray ++ ib.toArray) }) s.heap rfl) (rva.append rvb)

/-! subscripts -/
theorem AE_sub {v i : Expr} (hs : ∀ o x, subscripted i false o x = operate [o, x] (getItem o x))
    (h : AE X v σ (fun a σ1 => AE X i σ1 (fun b σ2 => ∃ k V, b = .int k ∧
      ((∃ vs, SeqOf σ2 a vs ∧ ((0 ≤ k ∧ k < 2 ^ 63 ∧ vs[k.toNat]? = some V) ∨ (k < 0 ∧ -(2 ^ 63) ≤ k ∧ -(vs.length : Int) ≤ k ∧ vs[(k + vs.length).toNat]? = some V))) ∨
       (∃ vs j, a = .tup vs ∧ -(2 ^ 63) ≤ k ∧ k < 2 ^ 63 ∧ seqIndex? k vs.length = some j ∧ vs[j]? = some V)) ∧ Q V σ2))) : AE X (.Subscript v i pos) σ Q := fun s R => by
  refine Subscript_ (wpAny_mono (h s R) ?_ fun _ _ e => e)
  rintro va s1 ⟨a, σ1, ra, R1, x1, hk⟩
  refine wpAny_mono (hk s1 R1) ?_ fun _ _ e => e
  rintro vb s2 ⟨b, σ2, rb, R2, x2, k, V, rfl, hh, q⟩
  obtain ⟨t, rfl⟩ := rb.int_inv
  have ra2 := x2.rv R1 ra
  have x12 := x1.trans R1 x2
  rcases hh with ⟨vs, hsq, hh⟩ | ⟨vs, j, rfl, h1, h2, h3, h4⟩
  · obtain ⟨a, ia, ka, rfl, ea, rva⟩ := hsq.open R2 ra2
    rcases hh with ⟨h0, h1, h2⟩ | ⟨h0, h1, h2, h3⟩
    · obtain ⟨v, hv, rv⟩ := rva.get h2
      exact tail_any (PySem.IsL.isList ea).typeIs slot_list_getitem.lookup (wpAny_getItem_list (PySem.IsL.isList ea) h0 h1 (by simpa using hv) ⟨V, σ2, rv, R2, x12, q⟩) (hs _ _)
    · obtain ⟨v, hv, rv⟩ := rva.get h3
      exact tail_any (PySem.IsL.isList ea).typeIs slot_list_getitem.lookup (wpAny_getItem_list_neg (PySem.IsL.isList ea) h0 (by simpa [rva.length] using h2) h1 (by simpa [rva.length] using hv) ⟨V, σ2, rv, R2, x12, q⟩) (hs _ _)
  · obtain ⟨a, ia, ka, rfl, ea, _, rva⟩ := ra2.tup_inv
    obtain ⟨v, hv, rv⟩ := rva.get h4
    exact tail_any (T := "tuple") ⟨_, ea, rfl⟩ F.slot_tuple_getitem.lookup (P.getItem_tuple ea h1 h2 (by simpa [rva.length] using h3) (by simpa using hv) ⟨V, σ2, rv, R2, x12, q⟩) (hs _ _)
end

end Mine
end
section
open PySem PySem.W PyProof.Rows PySem.Calls
namespace Mine

/-! stores -/
abbrev trueR {α β : Type} : Heap → Mem → α → β → Prop := fun _ _ _ _ => True
def AG (X : Cx) (t : Expr) (V : Val) (σ : St) (Q : St → Prop) : Prop :=
  ∀ s v, Rep X σ s → RV s.heap σ.mem v V → Ta X (trueR (α := Unit) (β := Unit)) (assign t X.env v) σ s (fun _ σ' => Q σ')

section
variable {X : Cx} {σ : St} {n : Nat}

theorem store_local (ok : X.Ok n) {x : Str} {V : Val} {v : Value} {s : Shared} {Q : St → Prop} (hk : X.env.kindOf x = some .local) (hd : (x == ("__debug__" : Str)) = false)
    (R : Rep X σ s) (rv : RV s.heap σ.mem v V) (h : Q (σ.set x V)) : Ta X (trueR (α := Unit) (β := Unit)) (storeName X.env x v) σ s (fun _ σ' => Q σ') := by
  obtain ⟨m, hn, hL, hc, hl⟩ := id R.env
  refine wpAny_storeName_local hk hn (fun h' hn' hs' => ?_) (by show (X.sc.kind == .class || (X.sc.kind == .module && _)) = false; rw [ok.kind]; rfl)
  have g := R.setL (t := s.toks + 1) hn hl hk hd rv ok.newL hn' hs'
  exact ⟨(), _, trivial, g.1, g.2, h⟩

theorem store_cell (ok : X.Ok n) {x : Str} {V : Val} {v : Value} {s : Shared} {Q : St → Prop} {c : Addr} (hk : X.env.kindOf x = some .cell) (hc : X.f.cells.lookup x = some c) (ho : c ∈ X.f.own) (hd : (x == ("__debug__" : Str)) = false)
    (R : Rep X σ s) (rv : RV s.heap σ.mem v V) (h : Q (σ.set x V)) : Ta X (trueR (α := Unit) (β := Unit)) (storeName X.env x v) σ s (fun _ σ' => Q σ') := by
  obtain ⟨m, hn, hL, hcs, hl⟩ := id R.env
  obtain ⟨_, v₀, hv₀⟩ := hcs c (.inl ho)
  refine wpAny_storeName_cell ok.kind hk hc hv₀ fun h' hn' hs' => ?_
  have g := R.setC (t := s.toks) hk hc ho ok.cellInj hd rv (ok.cellNew c ho).1 hv₀ hn' hs'
  exact ⟨(), _, trivial, g.1, g.2, h⟩

/-- a name that may be written here -/
def Writes (X : Cx) (x : Str) : Prop := (x == ("__debug__" : Str)) = false ∧ (X.env.kindOf x = some .local ∨ (X.env.kindOf x = some .cell ∧ ∃ c, X.f.cells.lookup x = some c ∧ c ∈ X.f.own))

theorem store_name (ok : X.Ok n) {x : Str} {V : Val} {v : Value} {s : Shared} {Q : St → Prop} (hw : Writes X x)
    (R : Rep X σ s) (rv : RV s.heap σ.mem v V) (h : Q (σ.set x V)) : Ta X (trueR (α := Unit) (β := Unit)) (storeName X.env x v) σ s (fun _ σ' => Q σ') := by
  obtain ⟨hd, hk | ⟨hk, c, hc, ho⟩⟩ := hw
  · exact store_local ok hk hd R rv h
  · exact store_cell ok hk hc ho hd R rv h

theorem AG_name (ok : X.Ok n) {x : Str} {pos : Pos} {V : Val} {Q : St → Prop} (hw : Writes X x) (h : Q (σ.set x V)) : AG X (.Name x pos) V σ Q :=
  fun _ _ R rv => PySem.wpAny_assign_Name (store_name ok hw R rv h)

def AGs (X : Cx) : List Expr → List Val → St → (St → Prop) → Prop
  | [], [], σ, Q => Q σ
  | t :: ts, V :: Vs, σ, Q => AG X t V σ (fun σ' => AGs X ts Vs σ' Q)
  | _, _, _, _ => False

theorem AGs_run : ∀ (ts : List Expr) (Vs : List Val) (vs : List Value) (σ : St) (s : Shared) (Q : St → Prop), (∀ t ∈ ts, ∀ e p, t ≠ .Starred e p) → AGs X ts Vs σ Q → Rep X σ s → RVs s.heap σ.mem vs Vs →
    Ta X (trueR (α := Unit) (β := Unit)) (assignInOrder ((assignEach ts X.env).map (·.2)) vs) σ s (fun _ σ' => Q σ')
  | [], [], [], σ, s, Q, _, h, R, _ => by
    show Ta X _ (assignInOrder [] []) σ s _
    unfold assignInOrder
    exact Ta.pure (b := ()) R trivial h
  | [], _ :: _, _, _, _, _, _, h, _, _ => h.elim
  | _ :: _, [], _, _, _, _, _, h, _, _ => h.elim
  | t :: ts, V :: Vs, v :: vs, σ, s, Q, hst, h, R, rvs => by
    have he : assignEach (t :: ts) X.env = (false, assign t X.env) :: assignEach ts X.env := by
      cases t <;> first | rfl | exact absurd rfl (hst _ (.head _) _ _)
    rw [he]
    show Ta X _ (assignInOrder (assign t X.env :: (assignEach ts X.env).map (·.2)) (v :: vs)) σ s _
    unfold assignInOrder
    cases rvs with
    | cons rv rvs =>
      refine Ta.bind (rel := trueR (α := Unit) (β := Unit)) (wpAny_holding (h s v R rv)) fun _ _ σ' s' _ R' x' hk => ?_
      exact AGs_run ts Vs vs σ' s' Q (fun t ht => hst t (.tail _ ht)) hk R' (x'.rvs R rvs)
  | [], [], _ :: _, _, _, _, _, _, _, rvs => by cases rvs
  | _ :: _, _ :: _, [], _, _, _, _, _, _, rvs => by cases rvs

theorem assignEach_length (X : Cx) : ∀ ts : List Expr, (assignEach ts X.env).length = ts.length
  | [] => rfl
  | t :: ts => by cases t <;> simp [assignEach, assignEach_length X ts]
theorem assignEach_star (X : Cx) : ∀ ts : List Expr, (∀ t ∈ ts, ∀ e p, t ≠ .Starred e p) → (assignEach ts X.env).findIdx? (·.1) = none
  | [], _ => rfl
  | t :: ts, h => by
    have he : assignEach (t :: ts) X.env = (false, assign t X.env) :: assignEach ts X.env := by
      cases t <;> first | rfl | exact absurd rfl (h _ (.head _) _ _)
    rw [he, List.findIdx?_cons, assignEach_star X ts fun t ht => h t (.tail _ ht)]
    rfl

theorem AG_tuple (ok : X.Ok n) {ts : List Expr} {k : Nat} {pos : Pos} {Vs : List Val} {Q : St → Prop} (hst : ∀ t ∈ ts, ∀ e p, t ≠ .Starred e p) (hlen : ts.length = Vs.length) (h : AGs X ts Vs σ Q) : AG X (.Tuple ts k pos) (.tup Vs) σ Q := fun s v R rv => by
  obtain ⟨a, items, k', rfl, e, _, rvs⟩ := rv.tup_inv
  refine wpAny_assign_Tuple ok.handled ⟨_, e, rfl, _, rfl⟩ (by rw [assignEach_length, hlen, ← rvs.length]; simp) (assignEach_star X ts hst) fun h' hx => ?_
  have kp : ∀ b o, s.heap.get? b = some o → h'.get? b = some o := fun b o e => hx b o (fun q => by rw [q, heap_top_none] at e; cases e) e
  have g := R.grow (t := s.toks) kp
  exact (AGs_run ts Vs items σ _ Q hst h g.1 (g.2.rvs R rvs)).then g.1 g.2

/-- an item of a tracked list -/
theorem AG_item {o i : Expr} {pos : Pos} {V : Val} {Q : St → Prop}
    (h : AE X o σ (fun a σ1 => AE X i σ1 (fun b σ2 => ∃ l vs k, a = .ref l ∧ b = .int k ∧ σ2.mem l = some (.list vs) ∧
      ((0 ≤ k ∧ k < 2 ^ 63 ∧ k < vs.length ∧ Q (σ2.put l (.list (vs.set k.toNat V)))) ∨ (k < 0 ∧ -(2 ^ 63) ≤ k ∧ -(vs.length : Int) ≤ k ∧ Q (σ2.put l (.list (vs.set (k + vs.length).toNat V)))))))) :
    AG X (.Subscript o i pos) V σ Q := fun s v R rv => by
  show wpAny _ _ (assign (.Subscript o i pos) X.env v) _ _ s
  rw [assign_Subscript]
  refine wpAny_bind (wpAny_holding (wpAny_mono (h s R) ?_ fun _ _ e => e))
  rintro va s1 ⟨a, σ1, ra, R1, x1, hk⟩
  refine wpAny_bind (wpAny_holding (wpAny_mono (hk s1 R1) ?_ fun _ _ e => e))
  rintro vb s2 ⟨b, σ2, rb, R2, x2, l, vs, k, rfl, rfl, hm, hh⟩
  obtain ⟨t, rfl⟩ := rb.int_inv
  have rv2 := x2.rv R1 (x1.rv R rv)
  have x12 := x1.trans R1 x2
  have ra2 := x2.rv R1 ra
  obtain rfl : va = .ref l := by cases ra2; rfl
  obtain ⟨items, kk, e, rvs⟩ := R2.isL hm
  refine wpAny_bind (wpAny_standAt (wpAny_bind (wpAny_holding ?_)))
  have fin : ∀ (j : Nat) (h' : Heap), h' = s2.heap.update l (Obj.mapSeq (·.setIfInBounds j v)) → Q (σ2.put l (.list (vs.set j V))) →
      ∀ rl : List Value, wpAny X.M X.A (release rl []) (fun a s' => ∃ (b : Unit) (σ' : St), trueR s'.heap σ'.mem a b ∧ Rep X σ' s' ∧ Ext X σ s σ' s' ∧ Q σ') (fun _ _ => False) { s2 with heap := h' } := by
    intro j h' eh q rl
    subst eh
    have el := PySem.IsL.update e (·.setIfInBounds j v)
    have ee : items.toArray.setIfInBounds j v = (items.set j v).toArray := by simp
    rw [ee] at el
    have kp : ∀ b o, b ≠ l → s2.heap.get? b = some o → (s2.heap.update l (Obj.mapSeq (·.setIfInBounds j v))).get? b = some o := fun b o q e => (Heap.get?_update_other _ _ (Ne.symm q)).trans e
    have pm : ∀ b, σ2.mem b = none → b ≠ l := fun b m q => by rw [q, hm] at m; cases m
    have g := R2.upd (t := s2.toks) (bx' := .list (vs.set j V)) hm kp ⟨items.set j v, _, el, (RVs.set rvs rv2).mono fun b o e m _ => ⟨kp b o (pm b m) e, by rw [St.put_mem, if_neg (pm b m)]; exact m⟩⟩
    exact wpAny_release' ⟨(), _, trivial, g.1, x12.trans R2 g.2, q⟩
  rcases hh with ⟨h0, h1, h2, q⟩ | ⟨h0, h1, h2, q⟩
  · exact ki_setAt e h0 h1 (by simpa [rvs.length] using h2) (fin _ _ rfl q _)
  · refine ki_setBack e h0 (by simpa [rvs.length] using h2) h1 ?_
    rw [show ((items.toArray.size : Nat) : Int) = (vs.length : Int) from by simp [rvs.length]]
    exact fin _ _ rfl q _
end

/-! statements -/
section
variable {X : Cx} {σ : St} {n : Nat} {Q : Fl → St → Prop} {pos : Pos}

theorem AS_nil (h : Q .next σ) : AS X [] σ Q := fun _ R => wpAny_execs_nil ⟨_, σ, .next, R, .refl, h⟩
theorem AS_cons {st : Stmt} {rest : List Stmt} (h : AX X st σ (fun fl σ1 => match fl with | .next => AS X rest σ1 Q | fl => Q fl σ1)) : AS X (st :: rest) σ Q := fun s R => by
  refine wpAny_execs_cons (wpAny_mono (h s R) ?_ fun _ _ e => e)
  rintro f s1 ⟨fl, σ1, rf, R1, x1, hk⟩
  cases rf with
  | next => exact (hk s1 R1).then R1 x1
  | brk => exact ⟨_, σ1, .brk, R1, x1, hk⟩
  | cont => exact ⟨_, σ1, .cont, R1, x1, hk⟩
  | ret r => exact ⟨_, σ1, .ret r, R1, x1, hk⟩

theorem AX_assign {t v : Expr} (hs : swapsWithSole [t] v pos.line X.env = pure false) (hw : swappedStores [t] v X.env = pure none) (ht : (assignEach [t] X.env).map (·.2) = [assign t X.env])
    (h : AE X v σ (fun V σ1 => AG X t V σ1 (fun σ2 => Q .next σ2))) : AX X (.Assign [t] v pos) σ Q := fun s R => by
  refine wpAny_Assign_stores (wpAny_mono (h s R) ?_ fun _ _ e => e) hs hw
  rintro va s1 ⟨V, σ1, rv, R1, x1, hk⟩
  rw [ht]
  show wpAny _ _ (assign t X.env va) _ _ s1
  refine wpAny_mono ((hk s1 va R1 rv).then R1 x1) ?_ fun _ _ e => e
  rintro _ s2 ⟨_, σ2, _, R2, x2, q⟩
  exact ⟨_, σ2, .next, R2, x2, q⟩

theorem AX_expr {e : Expr} (hi : interactive X.env = false) (hs : swapsWith e none pos.line X.env = pure false) (h : AE X e σ (fun _ σ1 => Q .next σ1)) : AX X (.Expr e pos) σ Q := fun s R => by
  refine wpAny_Expr_any (wpAny_mono (h s R) ?_ fun _ _ e => e) hi hs
  rintro va s1 ⟨V, σ1, rv, R1, x1, q⟩
  exact ⟨_, σ1, .next, R1, x1, q⟩

theorem AX_if {t : Expr} {b o : List Stmt} (h : AT X t σ (fun c σ1 => (c = true → AS X b σ1 Q) ∧ (c = false → AS X o σ1 Q))) : AX X (.If t b o pos) σ Q := fun s R => by
  refine wpAny_If (wpAny_mono (h s R) ?_ fun _ _ e => e)
  rintro c s1 ⟨d, σ1, rfl, R1, x1, q⟩
  cases c with
  | true => exact (q.1 rfl s1 R1).then R1 x1
  | false => exact (q.2 rfl s1 R1).then R1 x1

theorem AX_ret {e : Expr} (h : AE X e σ (fun V σ1 => Q (.ret V) σ1)) : AX X (.Return (some e) pos) σ Q := fun s R => by
  refine wpAny_Return_some (wpAny_mono (h s R) ?_ fun _ _ e => e)
  rintro va s1 ⟨V, σ1, rv, R1, x1, q⟩
  exact ⟨_, σ1, .ret rv, R1, x1, q⟩
theorem AX_break (h : Q .brk σ) : AX X (.Break pos) σ Q := fun _ R => wpAny_Break ⟨_, σ, .brk, R, .refl, h⟩
theorem AX_continue (h : Q .cont σ) : AX X (.Continue pos) σ Q := fun _ R => wpAny_Continue ⟨_, σ, .cont, R, .refl, h⟩

theorem AX_while {t : Expr} {b : List Stmt} (I : Nat → St → Prop)
    (turn : ∀ n σ, I n σ → AT X t σ (fun c σ1 => (c = true → AS X b σ1 (fun fl σ2 => match fl with
      | .next => ∃ m, m < n ∧ I m σ2
      | .cont => ∃ m, m < n ∧ I m σ2
      | .brk => Q .next σ2
      | .ret v => Q (.ret v) σ2)) ∧ (c = false → Q .next σ1)))
    (n : Nat) (h : I n σ) : AX X (.While t b [] pos) σ Q := fun s R => by
  refine wpAny_While ?_
  refine codeAny_whileLoop (fun n s' => ∃ σ', Rep X σ' s' ∧ Ext X σ s σ' s' ∧ I n σ') ?_ n ⟨σ, R, .refl, h⟩
  rintro n s' ⟨σ', R', x', hI⟩
  refine wpAny_mono (turn n σ' hI s' R') ?_ fun _ _ e => e.elim
  rintro c s1 ⟨d, σ1, rfl, R1, x1, q⟩
  have x01 := x'.trans R' x1
  cases c with
  | false => exact wpAny_execs_nil ⟨_, σ1, .next, R1, x01, q.2 rfl⟩
  | true =>
    refine wpAny_mono (q.1 rfl s1 R1) ?_ fun _ _ e => e.elim
    rintro f s2 ⟨fl, σ2, rf, R2, x2, hk⟩
    have x02 := x01.trans R1 x2
    cases rf with
    | next => obtain ⟨m, hm, hI⟩ := hk; exact ⟨m, hm, σ2, R2, x02, hI⟩
    | cont => obtain ⟨m, hm, hI⟩ := hk; exact ⟨m, hm, σ2, R2, x02, hI⟩
    | brk => exact ⟨_, σ2, .next, R2, x02, hk⟩
    | ret r => exact ⟨_, σ2, .ret r, R2, x02, hk⟩
end

end Mine
end
section
open PySem PySem.W PyProof.Rows PySem.Calls
namespace Mine

/-! iterators -/
structure It (X : Cx) (tg : Expr) (I : Addr) (W : Addr → Prop) (S : Nat → St → Heap → Prop) (items : List Val) (stay : St → Prop) : Prop where
  frame : ∀ i σ s σ' s', S i σ s.heap → Rep X σ s → Ext X σ s σ' s' → Rep X σ' s' → stay σ' → S i σ' s'.heap
  turn : ∀ i σ s V, Rep X σ s → S i σ s.heap → items[i]? = some V →
    wpAny X.M X.A (pyNext (.ref I)) (fun r s1 => ∃ v, r = some v ∧ wpAny X.M X.A (letOwnedTupleGo tg (.ref I) v) (fun _ s2 => ∃ h' tk, s2 = { s with heap := h', toks := tk } ∧ Rep X σ s2 ∧ RV h' σ.mem v V ∧ S (i + 1) σ h' ∧
      (∀ b o, ¬ W b → s.heap.get? b = some o → h'.get? b = some o)) (fun _ _ => False) s1) (fun _ _ => False) s
  done : ∀ σ s, Rep X σ s → S items.length σ s.heap →
    wpAny X.M X.A (pyNext (.ref I)) (fun r s1 => r = none ∧ ∃ h' tk, s1 = { s with heap := h', toks := tk } ∧ Rep X σ s1 ∧ (∀ b o, ¬ W b → s.heap.get? b = some o → h'.get? b = some o)) (fun _ _ => False) s
  self : ∀ i σ s, S i σ s.heap → wpAny X.M X.A (pyIter (.ref I)) (fun v s' => v = .ref I ∧ s' = s) (fun _ _ => False) s

/-- an iterator that has just been made; it may be walked in any frame that it does not lie in -/
def Walking (X : Cx) (tg : Expr) (σ : St) (s : Shared) (K : List Val → (St → Prop) → St → Prop) (it : Value) (s2 : Shared) : Prop :=
  ∃ I W S items stay σ', it = .ref I ∧ (∀ X' : Cx, X'.B = X.B → X'.A = X.A → (∃ n, X'.Ok n) → (∀ b, W b → b ≠ X'.f.L ∧ b ∉ X'.f.own) → It X' tg I W S items stay) ∧ S 0 σ' s2.heap ∧ Rep X σ' s2 ∧ Ext X σ s σ' s2 ∧
    (∀ b, W b → s.heap.get? b = none ∧ b ≠ X.f.L ∧ b ∉ X.f.own ∧ ∃ o, s2.heap.get? b = some o ∧ ¬ isSeqObj o ∧ ∀ v, o.data ≠ .cell v) ∧ stay σ' ∧ K items stay σ'

def AI (X : Cx) (tg iter : Expr) (σ : St) (K : List Val → (St → Prop) → St → Prop) : Prop :=
  ∀ s, Rep X σ s → wpAny X.M X.A (eval iter X.env) (fun x s1 => wpAny X.M X.A (pyIter x) (fun it s2 => Walking X tg σ s K it s2) (fun _ _ => False) s1) (fun _ _ => False) s

def ForL (X : Cx) (tg : Expr) (body : List Stmt) (stay : St → Prop) (Q : Fl → St → Prop) : List Val → St → Prop
  | [], σ => Q .next σ
  | V :: r, σ => AG X tg V σ (fun σ1 => AS X body σ1 (fun fl σ2 => match fl with
      | .next => stay σ2 ∧ ForL X tg body stay Q r σ2
      | .cont => stay σ2 ∧ ForL X tg body stay Q r σ2
      | .brk => Q .next σ2
      | .ret v => Q (.ret v) σ2))

section
variable {X : Cx} {σ : St} {n : Nat} {pos : Pos}

/-- the walk's own writes do not touch what was there before it -/
theorem Ext.walked {σ σ' : St} {s s' : Shared} {h' : Heap} {tk : Nat} {W : Addr → Prop} (x : Ext X σ s σ' s') (hW : ∀ b, W b → s.heap.get? b = none) (hk : ∀ b o, ¬ W b → s'.heap.get? b = some o → h'.get? b = some o) :
    Ext X σ s σ' { s' with heap := h', toks := tk } :=
  ⟨fun b o e m hL ho => hk b o (fun w => by rw [hW b w] at e; cases e) (x.keep b o e m hL ho), x.mem, fun b o e => let ⟨o', e'⟩ := x.live b o e; ⟨o', hk b o' (fun w => by rw [hW b w] at e; cases e) e'⟩⟩

theorem drop_cons_of_get {α : Type} {l : List α} {i : Nat} (h : i < l.length) : l.drop i = l[i] :: l.drop (i + 1) := List.drop_eq_getElem_cons h

theorem AX_for (ok : X.Ok n) {tg iter : Expr} {body : List Stmt} {Q : Fl → St → Prop} (hs : ∀ x, foldedSetIterable iter X.env x = pure x)
    (h : AI X tg iter σ (fun items stay σ1 => ForL X tg body stay Q items σ1)) : AX X (.For tg iter body [] pos) σ Q := fun s R => by
  refine wpAny_For (wpAny_mono (h s R) ?_ fun _ _ e => e) hs
  intro x s1 h1
  refine wpAny_mono h1 ?_ fun _ _ e => e
  rintro it s2 ⟨I, W, S, items, stay, σ2, rfl, it, hS, R2, x2, hW', hst, hF⟩
  have hW : ∀ b, W b → s.heap.get? b = none := fun b w => (hW' b w).1
  replace it := it X rfl rfl ⟨n, ok⟩ fun b w => ⟨(hW' b w).2.1, (hW' b w).2.2.1⟩
  refine codeAny_forLoop_any (fun k s' => ∃ i σ', i ≤ items.length ∧ k = items.length + 1 - i ∧ Rep X σ' s' ∧ S i σ' s'.heap ∧ Ext X σ s σ' s' ∧ ForL X tg body stay Q (items.drop i) σ') ?_ (items.length + 1)
    ⟨0, σ2, Nat.zero_le _, rfl, R2, hS, x2, by simpa using hF⟩
  rintro k s' ⟨i, σ', hi, rfl, R', hS', x', hF'⟩
  by_cases hlt : i < items.length
  · have hV : items[i]? = some items[i] := List.getElem?_eq_getElem hlt
    rw [drop_cons_of_get hlt] at hF'
    refine wpAny_mono (it.turn i σ' s' _ R' hS' hV) ?_ fun _ _ e => e.elim
    rintro r s3 ⟨v, rfl, h3⟩
    refine wpAny_mono h3 ?_ fun _ _ e => e.elim
    rintro _ s4 ⟨h', tk, rfl, R4, rv, hS4, hk4⟩
    have x4 := x'.walked (tk := tk) hW hk4
    refine wpAny_mono (hF' _ v R4 rv) ?_ fun _ _ e => e.elim
    rintro _ s5 ⟨_, σ5, _, R5, x5, hb⟩
    refine wpAny_mono (hb s5 R5) ?_ fun _ _ e => e.elim
    rintro f s6 ⟨fl, σ6, rf, R6, x6, hk⟩
    have x06 := (x4.trans R4 x5).trans R5 x6
    cases rf with
    | next => exact ⟨items.length + 1 - (i + 1), by (first | lia | omega), i + 1, σ6, hlt, rfl, R6, it.frame _ _ _ _ _ hS4 R4 (x5.trans R5 x6) R6 hk.1, x06, hk.2⟩
    | cont => exact ⟨items.length + 1 - (i + 1), by (first | lia | omega), i + 1, σ6, hlt, rfl, R6, it.frame _ _ _ _ _ hS4 R4 (x5.trans R5 x6) R6 hk.1, x06, hk.2⟩
    | brk => exact ⟨_, σ6, .next, R6, x06, hk⟩
    | ret r => exact ⟨_, σ6, .ret r, R6, x06, hk⟩
  · have hie : i = items.length := by (first | lia | omega)
    subst hie
    rw [List.drop_length] at hF'
    refine wpAny_mono (it.done σ' s' R' hS') ?_ fun _ _ e => e.elim
    rintro r s3 ⟨rfl, h', tk, rfl, R3, hk3⟩
    exact wpAny_execs_nil ⟨_, σ', .next, R3, x'.walked hW hk3, hF'⟩

/-! a list walked -/
def Plain (tg : Expr) : Prop := (∃ x p, tg = .Name x p) ∨ (∃ ts k p, tg = .Tuple ts k p)

theorem letOwned_list {tg : Expr} (ht : Plain tg) {I l : Addr} {i : Nat} {v : Value} {s : Shared} {Q : Unit → Shared → Prop} {E : Value → Shared → Prop} (hit : s.heap.IsListIter I l i) (hQ : Q () s) : wpAny X.M X.A (letOwnedTupleGo tg (.ref I) v) Q E s := by
  rcases ht with ⟨x, p, rfl⟩ | ⟨ts, k, p, rfl⟩
  · exact wpAny_pure hQ
  · cases v with
    | ref T => exact wpAny_letOwnedTupleGo_listiter hit hQ
    | _ => exact wpAny_pure hQ

theorem It.list (ok : X.Ok n) {tg : Expr} (ht : Plain tg) {I l : Addr} {V : Val} {vs : List Val} (hV : (V = .lst vs) ∨ V = .ref l) (hI1 : X.B.h₁.get? I = none) (hIL : I ≠ X.f.L) (hIo : I ∉ X.f.own) :
    It X tg I (· = I) (fun i σ h => h.IsListIter I l i ∧ σ.mem I = none ∧ RV h σ.mem (.ref l) V ∧ SeqOf σ V vs) vs (fun σ => SeqOf σ V vs) where
  frame := by
    rintro i σ s σ' s' ⟨⟨o, ho, hc, hd⟩, hm, hr, _⟩ R x R' hst
    exact ⟨⟨o, x.keep I o ho hm hIL hIo, hc, hd⟩, x.mem I o ho hm, x.rv R hr, hst⟩
  turn := by
    rintro i σ s W R ⟨hit, hm, hr, hsq⟩ hV'
    obtain ⟨a, items, k, ea, e, rvs⟩ := hsq.open R hr
    cases ea
    obtain ⟨v, hv, rv⟩ := rvs.get hV'
    refine wpAny_pyNext_list_item hit (PySem.IsL.isList e) (x := v) (by simpa using hv) fun h' hit' hs' => ⟨v, rfl, letOwned_list ht hit' ?_⟩
    have R' : Rep X σ { s with heap := h', toks := s.toks } := R.touch (W := (· = I)) (fun b o q e => hs'.extBut b o q e) fun b q => by
      subst q
      refine ⟨hI1, hIL, hm, fun o ho => ?_⟩
      obtain ⟨o', ho', _, hd⟩ := hit
      rw [ho] at ho'; cases ho'
      exact ⟨(fun ⟨_, _, q⟩ => absurd (hd.symm.trans q) nofun), (fun v q => absurd (hd.symm.trans q) nofun)⟩
    have ks : ∀ b o, s.heap.get? b = some o → σ.mem b = none → isSeqObj o → h'.get? b = some o ∧ σ.mem b = none := fun b o e m q => ⟨hs'.extBut b o (fun z => by
      obtain ⟨o', ho', _, hd⟩ := hit
      rw [z, ho'] at e; cases e
      obtain ⟨_, _, q⟩ := q; rw [hd] at q; cases q) e, m⟩
    exact ⟨h', s.toks, rfl, R', rv.mono ks, ⟨hit', hm, hr.mono ks, hsq⟩, fun b o q e => hs'.extBut b o q e⟩
  done := by
    rintro σ s R ⟨hit, hm, hr, hsq⟩
    obtain ⟨a, items, k, ea, e, rvs⟩ := hsq.open R hr
    cases ea
    refine wpAny_pyNext_list_end ok.handled hit (PySem.IsL.isList e) (by simp [rvs.length]) fun h' hx => ⟨rfl, h', s.toks, rfl, ?_, fun b o q e => hx b o q e⟩
    refine R.touch (W := (· = I)) (fun b o q e => hx b o q e) fun b q => ?_
    subst q
    refine ⟨hI1, hIL, hm, fun o ho => ?_⟩
    obtain ⟨o', ho', _, hd⟩ := hit
    rw [ho] at ho'; cases ho'
    exact ⟨(fun ⟨_, _, q⟩ => absurd (hd.symm.trans q) nofun), (fun v q => absurd (hd.symm.trans q) nofun)⟩
  self := fun i σ s ⟨hit, _⟩ => wpAny_pyIter_listiter hit ⟨rfl, rfl⟩

theorem Rep.top (R : Rep X σ s) : X.B.h₁.get? s.heap.objs.size = none ∧ s.heap.objs.size ≠ X.f.L ∧ s.heap.objs.size ∉ X.f.own ∧ σ.mem s.heap.objs.size = none := by
  have f := R.fresh (heap_top_none s.heap)
  obtain ⟨m, ⟨o, _, _, ho, _⟩, _, hc, _⟩ := R.env
  refine ⟨f.2, fun q => ?_, fun q => ?_, f.1⟩
  · rw [← q, heap_top_none] at ho; cases ho
  · obtain ⟨_, v, o', ho', _⟩ := hc _ (.inl q)
    rw [heap_top_none] at ho'; cases ho'

theorem AI_list {tg iter : Expr} (ht : Plain tg) {K : List Val → (St → Prop) → St → Prop} (h : AE X iter σ (fun V σ1 => ∃ vs, SeqOf σ1 V vs ∧ K vs (fun σ' => SeqOf σ' V vs) σ1)) : AI X tg iter σ K := fun s R => by
  refine wpAny_mono (h s R) ?_ fun _ _ e => e
  rintro v s1 ⟨V, σ1, rv, R1, x1, vs, hsq, hK⟩
  obtain ⟨l, items, k, rfl, e, rvs⟩ := hsq.open R1 rv
  refine wpAny_pyIter_list (PySem.IsL.isList e) ?_
  have g := R1.grow (h' := s1.heap.push { cls := .type "list_iterator", data := .fields #[.ref l, .int 0 0] }) (t := s1.toks) fun b o e => Heap.get?_push_of_some _ e
  have tp := R1.top
  refine ⟨s1.heap.objs.size, (· = s1.heap.objs.size), _, vs, _, σ1, rfl, fun X' eB eA ⟨n', ok'⟩ hd => It.list ok' ht (l := l) (V := V) ?_ (eB ▸ tp.1) (hd _ rfl).1 (hd _ rfl).2, ⟨⟨_, Heap.get?_push_size _ rfl, rfl, rfl⟩, tp.2.2.2, g.2.rv R1 rv, hsq⟩, g.1, x1.trans R1 g.2, ?_, hsq, hK⟩
  · rcases hsq with rfl | ⟨a, rfl, _⟩
    · exact .inl rfl
    · cases rv; exact .inr rfl
  · rintro b rfl
    refine ⟨?_, tp.2.1, tp.2.2.1, _, Heap.get?_push_size _ rfl, (fun ⟨_, _, q⟩ => nomatch q), (fun v q => nomatch q)⟩
    cases q : s.heap.get? s1.heap.objs.size with
    | none => rfl
    | some o =>
      obtain ⟨o', e'⟩ := x1.live _ o q
      rw [heap_top_none] at e'; cases e'
end

end Mine
end
section
open PySem PySem.W PyProof.Rows PySem.Calls
namespace Mine

/-! defs of the text, called -/
def fnFm (L : Addr) (qual : Str) (fa : Addr) (code : Value) (sc : Scope) : Fm :=
  { L := L, cells := cellsFrom (L + 1) sc.names [], own := (cellsFrom (L + 1) sc.names []).map (·.2), qual := qual, func := some fa, code := code, frame := some L }

structure FnAt (B : Base) (name : Str) (params : List Str) (body : List Stmt) (sc : Scope) (fa : Addr) (fd : FuncData) (o : Obj) : Prop where
  glob : B.mg name = some (.ref fa)
  get : B.h₁.get? fa = some o
  data : o.data = .func fd
  code : B.h₁.CodeRec fd.code fd.qualname
  body : fd.body = .stmts body
  clo : fd.closure = []
  scope : fd.scope = sc
  globals : fd.globals = mainGlobals
  builtins : fd.builtins = builtinsNs
  bind : ∀ vals, vals.length = params.length → bindArgs fd ⟨vals, []⟩ = pure (params.zip vals)
  nodup : params.Nodup
  kinds : ∀ x ∈ params, (x == ("__debug__" : Str)) = false ∧ (sc.names.lookup x = some .local ∨ (sc.names.lookup x = some .cell))
  cellNd : ((cellsFrom 0 sc.names []).map (·.1)).Nodup
  co : sc.isCoroutine = false
  gen : sc.isGenerator = false
  kind : sc.kind = .function

theorem bindL_out {k : Str → Option NameKind} : ∀ (bs : List (Str × Value)) (m : Str → Option Value) (x : Str), x ∉ bs.map (·.1) → bindL k bs m x = m x
  | [], _, _, _ => rfl
  | (n, v) :: r, m, x, h => by
    rw [List.map_cons, List.mem_cons, not_or] at h
    unfold bindL
    rw [bindL_out r _ x h.2]
    split
    · simp [h.1]
    · rfl
theorem bindC_out {k : Str → Option NameKind} : ∀ (bs : List (Str × Value)) (m : Str → Option Value) (x : Str), x ∉ bs.map (·.1) → bindC k bs m x = m x
  | [], _, _, _ => rfl
  | (n, v) :: r, m, x, h => by
    rw [List.map_cons, List.mem_cons, not_or] at h
    unfold bindC
    rw [bindC_out r _ x h.2]
    split
    · rfl
    · simp [h.1]
theorem bindL_in {k : Str → Option NameKind} : ∀ (bs : List (Str × Value)) (m : Str → Option Value) (x : Str) (v : Value), (bs.map (·.1)).Nodup → bs.lookup x = some v → k x = some .local → bindL k bs m x = some v
  | [], _, _, _, _, h, _ => by cases h
  | (n, u) :: r, m, x, v, hn, h, hk => by
    rw [List.map_cons, List.nodup_cons] at hn
    unfold bindL
    rw [List.lookup_cons] at h
    cases hx : x == n with
    | true =>
      rw [hx] at h
      have e : x = n := by simpa using hx
      subst e
      cases h
      rw [bindL_out r _ x hn.1, if_pos hk]; simp
    | false => rw [hx] at h; exact bindL_in r _ x v hn.2 h hk
theorem bindC_in {k : Str → Option NameKind} : ∀ (bs : List (Str × Value)) (m : Str → Option Value) (x : Str) (v : Value), (bs.map (·.1)).Nodup → bs.lookup x = some v → k x ≠ some .local → bindC k bs m x = some v
  | [], _, _, _, _, h, _ => by cases h
  | (n, u) :: r, m, x, v, hn, h, hk => by
    rw [List.map_cons, List.nodup_cons] at hn
    unfold bindC
    rw [List.lookup_cons] at h
    cases hx : x == n with
    | true =>
      rw [hx] at h
      have e : x = n := by simpa using hx
      subst e
      cases h
      rw [bindC_out r _ x hn.1, if_neg hk]; simp
    | false => rw [hx] at h; exact bindC_in r _ x v hn.2 h hk

theorem cellsFrom_some' {x : Str} {names : List (Str × NameKind)} {n : Nat} (h : names.lookup x = some .cell) : ((cellsFrom n names []).lookup x).isSome = true := cellsFrom_some names n [] (.inl h)

theorem zip_lookup {params : List Str} : ∀ {Vs : List Val} {vs : List Value} {h : Heap} {mem : Mem} {x : Str} {V : Val}, RVs h mem vs Vs → (params.zip Vs).lookup x = some V → ∃ v, (params.zip vs).lookup x = some v ∧ RV h mem v V := by
  induction params with
  | nil => intro Vs vs h mem x V _ e; simp at e
  | cons p ps ih =>
    intro Vs vs h mem x V r e
    cases r with
    | nil => simp at e
    | cons a r =>
      rw [List.zip_cons_cons, List.lookup_cons] at e ⊢
      cases hx : x == p with
      | true => rw [hx] at e; cases e; exact ⟨_, rfl, a⟩
      | false => rw [hx] at e; exact ih r e
theorem zip_lookup_mem {params : List Str} {α : Type} : ∀ {Vs : List α} {x : Str} {V : α}, (params.zip Vs).lookup x = some V → x ∈ params := by
  induction params with
  | nil => intro Vs x V e; simp at e
  | cons p ps ih =>
    intro Vs x V e
    cases Vs with
    | nil => simp at e
    | cons a r =>
      rw [List.zip_cons_cons, List.lookup_cons] at e
      cases hx : x == p with
      | true => exact List.mem_cons.mpr (.inl (by simpa using hx))
      | false => rw [hx] at e; exact .tail _ (ih e)

def St.back (σ σ' : St) : St := { mem := fun a => if (σ.mem a).isSome then σ'.mem a else none, loc := σ.loc }
def Fl.val : Fl → Val
  | .ret v => v
  | _ => .none
def St.enter (σ : St) (params : List Str) (Vs : List Val) : St := { mem := σ.mem, loc := fun x => (params.zip Vs).lookup x }

/-- what a def of the text answers to a call -/
def CallD (B : Base) (n : Nat) (params : List Str) (body : List Stmt) (sc : Scope) (Vs : List Val) (σ : St) (Q : Val → St → Prop) : Prop :=
  ∀ A L qual fa code, (⟨B, A, fnFm L qual fa code sc, sc⟩ : Cx).Ok n → AS ⟨B, A, fnFm L qual fa code sc, sc⟩ body (σ.enter params Vs) (fun fl σ' => Q fl.val (σ.back σ'))

section
variable {X : Cx} {σ : St} {n : Nat} {pos : Pos}

theorem call_def (ok : X.Ok (n + 1)) {name : Str} {params : List Str} {body : List Stmt} {sc : Scope} {fa : Addr} {fd : FuncData} {o : Obj} (F : FnAt X.B name params body sc fa fd o) {Vs : List Val} {vs : List Value} {s : Shared} {Q : Val → St → Prop}
    (R : Rep X σ s) (rvs : RVs s.heap σ.mem vs Vs) (hl : Vs.length = params.length) (h : CallD X.B n params body sc Vs σ Q) : Ta X RV (call (.ref fa) vs) σ s Q := by
  refine wpAny_call ?_
  have hvl : vs.length = params.length := rvs.length.trans hl
  refine codeAny_call_cells (body := body) (binds := params.zip vs) (Nat.lt_of_le_of_lt (Nat.le_add_right _ _) ok.depth) (R.keep _ _ F.get) F.data (ok.base.lim.keeps R.keep) (F.code.keeps R.keep) F.body (F.bind vs hvl) F.clo ?_ ?_ (by rw [F.scope]; exact F.co) (by rw [F.scope]; exact F.gen) (by rw [F.scope]; exact F.kind)
  · intro x hx
    have hm : x.1 ∈ params := by
      obtain ⟨a, b⟩ := x
      exact (List.of_mem_zip hx).1
    rw [F.scope]
    rcases (F.kinds _ hm).2 with k | k
    · exact .inl k
    · exact .inr ⟨k, cellsFrom_some' k⟩
  · intro s₁ C
    have eE : callEnvC fd s.heap.objs.size fa = (fnFm s.heap.objs.size (fd.qualname ++ ".<locals>.") fa fd.code sc).env sc := by
      simp only [callEnvC, newEnv, Fm.env, fnFm, F.scope, F.globals, F.builtins]
    rw [eE] at C ⊢
    generalize hX' : (⟨X.B, X.A.deeper ((fnFm s.heap.objs.size (fd.qualname ++ ".<locals>.") fa fd.code sc).env sc), fnFm s.heap.objs.size (fd.qualname ++ ".<locals>.") fa fd.code sc, sc⟩ : Cx) = X'
    have eB : X'.B = X.B := by rw [← hX']
    have eA : X'.A = X.A.deeper ((fnFm s.heap.objs.size (fd.qualname ++ ".<locals>.") fa fd.code sc).env sc) := by rw [← hX']
    have eF : X'.f = fnFm s.heap.objs.size (fd.qualname ++ ".<locals>.") fa fd.code sc := by rw [← hX']
    have eS : X'.sc = sc := by rw [← hX']
    have eL : X'.f.L = s.heap.objs.size := by rw [eF]; rfl
    have eC : X'.f.cells = cellsFrom (s.heap.objs.size + 1) sc.names [] := by rw [eF]; rfl
    have eO : X'.f.own = (cellsFrom (s.heap.objs.size + 1) sc.names []).map (·.2) := by rw [eF]; rfl
    have above : ∀ c ∈ X'.f.own, s.heap.objs.size < c := by
      intro c hc
      rw [eO] at hc
      obtain ⟨⟨y, c'⟩, hm, rfl⟩ := List.mem_map.mp hc
      exact C.above y c' hm
    have notlive : ∀ c, s.heap.objs.size ≤ c → s.heap.get? c = none := fun c hc => Heap.get?_none_of_le hc
    have ok' : X'.Ok n := by
      refine ⟨eB ▸ ok.base, eS ▸ F.kind, ?_, ?_, ?_, ?_, ?_, ?_⟩
      · rw [eA]; exact ok.handled
      · rw [eA]; show X.A.depth + 1 + n < _; have := ok.depth; (first | lia | omega)
      · rw [eA]; show X.A.units + 3 + 10 * n + 100 < _; have := ok.units; (first | lia | omega)
      · rw [eB, eL]; exact R.top.1
      · intro c hc
        refine ⟨?_, by rw [eL]; exact Nat.ne_of_gt (above c hc)⟩
        rw [eB]; exact (R.fresh (notlive c (Nat.le_of_lt (above c hc)))).2
      · intro x y c hx hy
        rw [eC] at hx hy
        exact name_of_addr C.apart (mem_of_lookup hx) (mem_of_lookup hy)
    obtain ⟨h₁, tk₁, rfl, hk₁⟩ := C.done
    have g := R.grow (t := tk₁) hk₁
    have R' : Rep X' (σ.enter params Vs) { s with heap := h₁, toks := tk₁ } := by
      refine ⟨eB ▸ g.1.keep, g.1.gens, eB ▸ g.1.os, fun a bx e => ?_, ?_⟩
      · have q := g.1.mem a bx e; rw [eB]; exact q
      · refine ⟨_, eL ▸ C.toInCall.ns, by rw [eL]; exact R.top.2.2.2, fun c hc => ?_, fun x V hx => ?_⟩
        · replace hc : c ∈ X'.f.own := hc.elim id fun ⟨x, hx⟩ => by rw [eC] at hx; rw [eO]; exact List.mem_map.mpr ⟨(x, c), hx, rfl⟩
          refine ⟨(R.fresh (notlive c (Nat.le_of_lt (above c hc)))).1, ?_⟩
          rw [eO] at hc
          obtain ⟨⟨y, c'⟩, hm, rfl⟩ := List.mem_map.mp hc
          have nd : ((cellsFrom (s.heap.objs.size + 1) sc.names []).map (·.1)).Nodup := by
            rw [← cellsFrom_names sc.names 0 (s.heap.objs.size + 1) [] [] rfl]; exact F.cellNd
          exact ⟨_, C.cell y c' (lookup_of_mem_nodup nd hm)⟩
        · obtain ⟨v, hv, rv⟩ := zip_lookup rvs hx
          have hmem := zip_lookup_mem hx
          have nd : ((params.zip vs).map (·.1)).Nodup := by
            rw [List.map_fst_zip (by (first | lia | omega))]; exact F.nodup
          refine ⟨(F.kinds x hmem).1, v, g.2.rv R rv, ?_⟩
          have ek : X'.env.kindOf x = sc.names.lookup x := by
            show X'.sc.names.lookup x = _; rw [eS]
          rcases (F.kinds x hmem).2 with k | k
          · exact .inl ⟨ek.trans k, bindL_in _ _ x v nd hv k⟩
          · obtain ⟨c, hc⟩ := Option.isSome_iff_exists.mp (cellsFrom_some' (n := s.heap.objs.size + 1) k)
            refine .inr ⟨c, eC ▸ hc, ?_, ?_, .inl (ek.trans k)⟩
            · have q := C.cell x c hc
              rw [bindC_in _ _ x v nd hv (by show sc.names.lookup x ≠ _; rw [k]; decide)] at q
              exact q
            · exact (R.fresh (notlive c (Nat.le_of_lt (C.above x c (mem_of_lookup hc))))).1
    have hc := h X'.A X'.f.L (fd.qualname ++ ".<locals>.") fa fd.code (by
      have : (⟨X.B, X'.A, fnFm X'.f.L (fd.qualname ++ ".<locals>.") fa fd.code sc, sc⟩ : Cx) = X' := by rw [eL, ← hX']
      rw [this]; exact ok')
    have eX : (⟨X.B, X'.A, fnFm X'.f.L (fd.qualname ++ ".<locals>.") fa fd.code sc, sc⟩ : Cx) = X' := by rw [eL, ← hX']
    rw [eX] at hc
    have hw := hc _ R'
    rw [show (model X.B.prog X.B.w) = X'.M from by rw [← hX'], ← eA, show (fnFm s.heap.objs.size (fd.qualname ++ ".<locals>.") fa fd.code sc).env sc = X'.env from by rw [← hX']]
    refine wpAny_mono hw ?_ fun _ _ e => e.elim
    rintro f s' ⟨fl, σ', rf, R'', x', q⟩
    have nn : ∀ b, σ'.mem b = none → (σ.back σ').mem b = none := fun b m => by
      show (if _ then _ else _) = none
      split
      · exact m
      · rfl
    have nk : ∀ b ob, s.heap.get? b = some ob → σ.mem b = none → s'.heap.get? b = some ob ∧ (σ.back σ').mem b = none := fun b ob e m => by
      have lt := Heap.lt_size e
      refine ⟨x'.keep b ob (hk₁ b ob e) m (by rw [eL]; exact Nat.ne_of_lt lt) (fun hm => ?_), ?_⟩
      · exact absurd (above b hm) (Nat.not_lt.mpr (Nat.le_of_lt lt))
      · exact nn b (x'.mem b ob (hk₁ b ob e) m)
    have RX : Rep X (σ.back σ') s' := by
      refine ⟨eB ▸ R''.keep, R''.gens, eB ▸ R''.os, fun a bx e => ?_, ?_⟩
      · have e' : σ'.mem a = some bx := by
          have : (if (σ.mem a).isSome then σ'.mem a else none) = some bx := e
          split at this
          · exact this
          · cases this
        have q := R''.mem a bx e'
        rw [eB] at q
        exact ⟨q.1, q.2.mono (fun b o e m _ => ⟨e, nn b m⟩) fun _ e => e⟩
      · obtain ⟨m, ⟨oL, es, ep, hL, rest⟩, qL, qc, ql⟩ := id R.env
        exact R.env.mono (fun b ob e m _ => nk b ob e m) (fun ob e => (nk _ ob e qL).1) (fun c v ⟨ob, e, d⟩ m => ⟨⟨ob, (nk c ob e m).1, d⟩, (nk c ob e m).2⟩) (nk _ _ hL qL).2 fun _ _ e => e
    refine ⟨fl.val, σ.back σ', ?_, RX, ⟨fun b ob e m _ _ => (nk b ob e m).1, fun b ob e m => (nk b ob e m).2, fun b ob e => x'.live b ob (hk₁ b ob e)⟩, q⟩
    cases rf with
    | ret r => exact r.mono fun b o e m _ => ⟨e, nn b m⟩
    | next => exact .none
    | brk => exact .none
    | cont => exact .none

theorem name_global (ok : X.Ok n) {x : Str} {v : Value} {s : Shared} {E : Value → Shared → Prop} {Q : Value → Shared → Prop} (R : Rep X σ s) (hk : X.env.kindOf x = some .globalImplicit) (hd : (x == ("__debug__" : Str)) = false) (hv : X.B.mg x = some v) (h : Q v s) :
    wpAny X.M X.A (eval (.Name x pos) X.env) Q E s := Name_function_global ok.kind hk (loadGlobal_global (ok.base.g.keeps R.keep) hv h) hd
theorem name_builtin (ok : X.Ok n) {x : Str} {v : Value} {s : Shared} {E : Value → Shared → Prop} {Q : Value → Shared → Prop} (R : Rep X σ s) (hk : X.env.kindOf x = some .globalImplicit) (hd : (x == ("__debug__" : Str)) = false) (hg : X.B.mg x = none) (hn : x ≠ ("__name__" : Str))
    (hv : bootBuiltins x = some v) (h : Q v s) : wpAny X.M X.A (eval (.Name x pos) X.env) Q E s :=
  Name_function_global ok.kind hk (loadGlobal_builtin (ok.base.g.keeps R.keep) hg (ok.base.b.keeps R.keep) ((ok.base.boot x hn).trans hv) h) hd

theorem AE_call (ok : X.Ok (n + 1)) {name : Str} {p : Pos} {e : Expr} {args : List Expr} {params : List Str} {body : List Stmt} {sc : Scope} {fa : Addr} {fd : FuncData} {o : Obj} (F : FnAt X.B name params body sc fa fd o) {Q : Val → St → Prop}
    (hk : X.env.kindOf name = some .globalImplicit) (hd : (name == ("__debug__" : Str)) = false) (he : starEach (e :: args) X.env = (false, eval e X.env) :: starEach args X.env)
    (h : AEs X pos (e :: args) σ (fun Vs σ1 => Vs.length = params.length ∧ CallD X.B n params body sc Vs σ1 Q)) : AE X (.Call (.Name name p) (e :: args) [] pos) σ Q := fun s R => by
  refine PyProof.Rows.Call_ (name_global ok R hk hd F.glob ?_)
  refine PyProof.Rows.callWith_def (o := o) (fd := fd) F.data (wpAny_mono (h s R) ?_ fun _ _ e => e) he
  rintro vs s1 ⟨Vs, σ1, rvs, R1, x1, hl, hc⟩
  exact ⟨R1.keep _ _ F.get, (call_def ok F R1 rvs hl hc).then R1 x1⟩

/-! built-in callables -/
def BC (X : Cx) (f : Value) (Vs : List Val) (σ : St) (Q : Val → St → Prop) : Prop := ∀ s vs, Rep X σ s → RVs s.heap σ.mem vs Vs → Ta X RV (call f vs) σ s Q

/-- a built-in's name, here -/
structure BName (X : Cx) (x : Str) (v : Value) : Prop where
  kind : X.env.kindOf x = some .globalImplicit
  dbg : (x == ("__debug__" : Str)) = false
  free : X.B.mg x = none
  ne : x ≠ ("__name__" : Str)
  boot : bootBuiltins x = some v

theorem AE_builtin (ok : X.Ok n) {x : Str} {p : Pos} {id : String} {e : Expr} {args : List Expr} {Q : Val → St → Prop} (N : BName X x (.builtin id)) (he : starEach (e :: args) X.env = (false, eval e X.env) :: starEach args X.env)
    (hp : (backTo pos (starEach args X.env)).any (·.1) = false) (h : AEs X pos (e :: args) σ (fun Vs σ1 => BC X (.builtin id) Vs σ1 Q)) : AE X (.Call (.Name x p) (e :: args) [] pos) σ Q := fun s R => by
  refine PyProof.Rows.Call_ (name_builtin ok R N.kind N.dbg N.free N.ne N.boot ?_)
  refine PyProof.Rows.callWith_builtin1 (wpAny_mono (h s R) ?_ fun _ _ e => e) he hp
  rintro vs s1 ⟨Vs, σ1, rvs, R1, x1, hc⟩
  exact (hc s1 vs R1 rvs).then R1 x1

theorem BC_len {V : Val} {vs : List Val} {Q : Val → St → Prop} (hs : SeqOf σ V vs) (hl : vs.length < 2 ^ 62) (h : Q (.int vs.length) σ) : BC X (.builtin "len") [V] σ Q := fun s v R rv => by
  cases rv with
  | cons a r =>
    cases r
    obtain ⟨l, items, k, rfl, e, rvs⟩ := hs.open R a
    refine PyProof.Rows.len_list (PySem.IsL.isList e) (by simp [rvs.length]; (first | lia | omega)) ?_
    have g := R.toks (t := s.toks + 1 + 1)
    refine ⟨_, σ, ?_, g.1, g.2, h⟩
    simpa [rvs.length] using RV.int (h := s.heap) (mem := σ.mem) (vs.length : Int) (s.toks + 1)
end

end Mine
end
section
open PySem PySem.W PyProof.Rows PySem.Calls PySem.Spec
namespace Mine

/-! plain data: equality, membership -/
mutual
def Val.dat : Val → Dat
  | .none => .none
  | .bool b => .bool b
  | .int i => .int i
  | .str x => .str x
  | .tup vs => .tuple (Val.dats vs)
  | .lst vs => .list (Val.dats vs)
  | .ref _ => .bytes #[]
def Val.dats : List Val → List Dat
  | [] => []
  | v :: vs => v.dat :: Val.dats vs
end
theorem dats_eq (vs : List Val) : Val.dats vs = vs.map Val.dat := by
  induction vs with
  | nil => rfl
  | cons v vs ih => simp [Val.dats, ih]

def pureV (n : Nat) (v : Val) : Prop := kqdOk n v.dat = true
theorem pureV_int {n : Nat} (i : Int) : pureV n (.int i) := by cases n <;> rfl
theorem pureV_none {n : Nat} : pureV n .none := by cases n <;> rfl
theorem pureV_tup {n : Nat} {vs : List Val} : pureV (n + 1) (.tup vs) ↔ ∀ v ∈ vs, pureV n v := by
  simp [pureV, Val.dat, kqdOk, dats_eq]
theorem pureV_lst {n : Nat} {vs : List Val} : pureV (n + 1) (.lst vs) ↔ ∀ v ∈ vs, pureV n v := by
  simp [pureV, Val.dat, kqdOk, dats_eq]

mutual
theorem dat_inj : ∀ (n k : Nat) (v w : Val), kqdOk n v.dat = true → kqdOk k w.dat = true → v.dat = w.dat → v = w
  | n, _, .none, w, _, h2, e => by cases w <;> simp_all [Val.dat]
  | n, _, .bool b, w, h1, h2, e => by cases n <;> simp [Val.dat, kqdOk] at h1
  | n, _, .int i, w, _, h2, e => by cases w <;> simp_all [Val.dat]
  | n, _, .str x, w, _, h2, e => by cases w <;> simp_all [Val.dat]
  | n, _, .ref a, w, h1, _, e => by cases n <;> simp [Val.dat, kqdOk] at h1
  | 0, _, .tup vs, w, h1, _, e => by simp [Val.dat, kqdOk] at h1
  | 0, _, .lst vs, w, h1, _, e => by simp [Val.dat, kqdOk] at h1
  | n + 1, k, .tup vs, w, h1, h2, e => by
    cases w with
    | tup ws =>
      cases k with
      | zero => simp [Val.dat, kqdOk] at h2
      | succ k =>
        simp only [Val.dat, Dat.tuple.injEq] at e
        rw [dats_inj n k vs ws (by simpa [Val.dat, kqdOk] using h1) (by simpa [Val.dat, kqdOk] using h2) e]
    | _ => simp [Val.dat] at e
  | n + 1, k, .lst vs, w, h1, h2, e => by
    cases w with
    | lst ws =>
      cases k with
      | zero => simp [Val.dat, kqdOk] at h2
      | succ k =>
        simp only [Val.dat, Dat.list.injEq] at e
        rw [dats_inj n k vs ws (by simpa [Val.dat, kqdOk] using h1) (by simpa [Val.dat, kqdOk] using h2) e]
    | _ => simp [Val.dat] at e
theorem dats_inj : ∀ (n k : Nat) (vs ws : List Val), (∀ d ∈ Val.dats vs, kqdOk n d = true) → (∀ d ∈ Val.dats ws, kqdOk k d = true) → Val.dats vs = Val.dats ws → vs = ws
  | _, _, [], [], _, _, _ => rfl
  | _, _, [], _ :: _, _, _, e => by simp [Val.dats] at e
  | _, _, _ :: _, [], _, _, e => by simp [Val.dats] at e
  | n, k, v :: vs, w :: ws, h1, h2, e => by
    simp only [Val.dats, List.cons.injEq] at e
    simp only [Val.dats, List.mem_cons, forall_eq_or_imp] at h1 h2
    rw [dat_inj n k v w h1.1 h2.1 e.1, dats_inj n k vs ws h1.2 h2.2 e.2]
end

mutual
theorem RV.reads {h : Heap} {mem : Mem} : ∀ {v : Value} {V : Val} (n : Nat), RV h mem v V → kqdOk n V.dat = true → ∃ as, Reads h v (kqdP V.dat) as
  | _, _, _, .none, _ => ⟨_, Reads.none⟩
  | _, _, _, .bool b, _ => ⟨_, Reads.bool b⟩
  | _, _, _, .int i t, _ => ⟨_, Reads.int i t⟩
  | _, _, _, .str x t, _ => ⟨_, Reads.str x t⟩
  | _, _, n, .ref _, hk => by cases n <;> simp [Val.dat, kqdOk] at hk
  | _, _, 0, .tup _ _ _, hk => by simp [Val.dat, kqdOk] at hk
  | _, _, 0, .lst _ _ _, hk => by simp [Val.dat, kqdOk] at hk
  | _, _, n + 1, .tup e _ r, hk => by
    obtain ⟨as, q⟩ := RVs.reads n r (by simpa [Val.dat, kqdOk] using hk)
    rw [Val.dat, kqdP]
    exact ⟨as, reads_tuple_at e rfl rfl (by simpa using q)⟩
  | _, _, n + 1, .lst e _ r, hk => by
    obtain ⟨as, q⟩ := RVs.reads n r (by simpa [Val.dat, kqdOk] using hk)
    rw [Val.dat, kqdP]
    exact ⟨_, reads_list_at e rfl rfl (by simpa using q)⟩
theorem RVs.reads {h : Heap} {mem : Mem} : ∀ {vs : List Value} {Vs : List Val} (n : Nat), RVs h mem vs Vs → (∀ d ∈ Val.dats Vs, kqdOk n d = true) → ∃ as, ReadsAll h vs (kqdPs (Val.dats Vs)) as
  | _, _, _, .nil, _ => ⟨_, ReadsAll.nil⟩
  | _, _, n, .cons a r, hk => by
    simp only [Val.dats, List.mem_cons, forall_eq_or_imp] at hk
    obtain ⟨as, q⟩ := RV.reads n a hk.1
    obtain ⟨bs, p⟩ := RVs.reads n r hk.2
    rw [Val.dats, kqdPs]
    exact ⟨_, ReadsAll.cons q p⟩
end

/-- a value, a tracked list seen as its items -/
def View (σ : St) (A A' : Val) : Prop := A' = A ∨ ∃ a vs, A = .ref a ∧ σ.mem a = some (.list vs) ∧ A' = .lst vs
theorem View.self {σ : St} {A : Val} : View σ A A := .inl rfl
theorem View.ref {σ : St} {a : Addr} {vs : List Val} (h : σ.mem a = some (.list vs)) : View σ (.ref a) (.lst vs) := .inr ⟨a, vs, rfl, h, rfl⟩

theorem View.reads {X : Cx} {σ : St} {s : Shared} {A A' : Val} {v : Value} {n : Nat} (w : View σ A A') (R : Rep X σ s) (r : RV s.heap σ.mem v A) (hp : pureV n A') : ∃ as, Reads s.heap v (kqdP A'.dat) as := by
  rcases w with rfl | ⟨a, vs, rfl, hm, rfl⟩
  · exact r.reads n hp
  · cases r
    obtain ⟨items, k, e, rvs⟩ := R.isL hm
    cases n with
    | zero => simp [pureV, Val.dat, kqdOk] at hp
    | succ n =>
      obtain ⟨as, q⟩ := rvs.reads n (by simpa [pureV, Val.dat, kqdOk] using hp)
      rw [Val.dat, kqdP]
      exact ⟨_, reads_list_at e rfl rfl (by simpa using q)⟩

theorem shaped_of {n : Nat} (hn : n ≤ 60) {V : Val} (h : pureV n V) : SeqAt.shaped (kqdP V.dat) = true := by
  have la := kqd_lay n V.dat h
  unfold SeqAt.shaped
  rw [la.1, Bool.true_and]
  exact decide_eq_true (Nat.le_trans la.2 (by (first | lia | omega)))

section
variable {X : Cx} {σ : St} {n : Nat} {P : Bool → St → Prop}

theorem eqv_iff {k m : Nat} {A B : Val} (ha : pureV k A) (hb : pureV m B) : PyData.eqv (kqdP A.dat) (kqdP B.dat) = true ↔ A = B :=
  (kqd_eqv k A.dat B.dat m ha hb).trans ⟨dat_inj k m A B ha hb, fun e => by rw [e]⟩

theorem Cmp_eqD (ok : X.Ok n) {A B A' B' : Val} (wa : View σ A A') (wb : View σ B B') (ha : pureV 8 A') (hb : pureV 8 B') (h : ∀ b : Bool, (b = true ↔ A' = B') → P b σ) : Cmp2 X .Eq A B σ P := fun s va vb R ra rb => by
  obtain ⟨as, qa⟩ := wa.reads R ra ha
  obtain ⟨bs, qb⟩ := wb.reads R rb hb
  exact eq_dataH qa qb (shaped_of (by decide) ha) (shaped_of (by decide) hb) (by have := ok.units; (first | lia | omega)) (boolQ R (h _ (eqv_iff ha hb)))
theorem Cmp_neD (ok : X.Ok n) {A B A' B' : Val} (wa : View σ A A') (wb : View σ B B') (ha : pureV 8 A') (hb : pureV 8 B') (h : ∀ b : Bool, (b = true ↔ A' ≠ B') → P b σ) : Cmp2 X .NotEq A B σ P := fun s va vb R ra rb => by
  obtain ⟨as, qa⟩ := wa.reads R ra ha
  obtain ⟨bs, qb⟩ := wb.reads R rb hb
  refine ne_dataH qa qb (shaped_of (by decide) ha) (shaped_of (by decide) hb) (by have := ok.units; (first | lia | omega)) (boolQ R (h _ ?_))
  have q := eqv_iff ha hb
  constructor
  · intro z e; rw [q.mpr e] at z; cases z
  · intro z
    cases w : PyData.eqv (kqdP A'.dat) (kqdP B'.dat) with
    | false => rfl
    | true => exact absurd (q.mp w) z

end

/-! tuples of ints, by the first place that differs -/
def lexLt : List Int → List Int → Bool
  | [], [] => false
  | [], _ :: _ => true
  | _ :: _, [] => false
  | a :: as, b :: bs => if a = b then lexLt as bs else decide (a < b)

section
variable {prog : Program} {w : World} {A : Around} {E : Value → Shared → Prop} {s : Shared}

theorem lex_zip_nil : ∀ {xs ys : List Int} {vs ws : List Value}, IntsAre vs xs → IntsAre ws ys → List.zip vs ws = [] → lexLt xs ys = decide (vs.length < ws.length)
  | [], [], _, _, .nil, .nil, _ => by simp [lexLt]
  | [], _ :: _, _, _, .nil, .cons _ _ _, _ => by simp [lexLt]
  | _ :: _, [], _, _, .cons _ _ _, .nil, _ => by simp [lexLt]
  | _ :: _, _ :: _, _, _, .cons _ _ _, .cons _ _ _, h => by simp at h

theorem tuple_lt_tree {x y : List Int} {a b : Addr} {vs ws : List Value} {k m : Nat} {P : PySem.Fin → Shared → Prop} (hx : IsT s.heap a vs.toArray k) (hy : IsT s.heap b ws.toArray m) (ix : IntsAre vs x) (iy : IntsAre ws y)
    (h : P (.done (.ret (.bool (lexLt x y)))) s) : wpAny (model prog w) A (Builtin.«tuple.__lt__» ⟨[.ref a, .ref b], []⟩) P E s := by
  show wpAny _ _ (isInstance (.ref b) (.type "tuple") >>= _) _ _ s
  refine wpAny_bind (wpAny_isInstance (T := "tuple") ⟨_, hy, rfl⟩ isSubtype_tuple_tuple ?_)
  simp only [Bool.not_true, Bool.false_eq_true, if_false]
  refine wpAny_bind (wpAny_tupleItemsOf hx rfl ?_)
  refine wpAny_bind (wpAny_tupleItemsOf hy rfl ?_)
  refine wpAny_bind ?_
  refine wpAny_forIn_list _
    (fun rest r s' => r.1 = none ∧ s' = s ∧ ∃ x' y' vs' ws', rest = List.zip vs' ws' ∧ IntsAre vs' x' ∧ IntsAre ws' y' ∧ lexLt x' y' = lexLt x y ∧ decide (vs'.length < ws'.length) = decide (vs.length < ws.length))
    _ ?_ ?_ _ _ ⟨rfl, rfl, x, y, vs, ws, by simp, ix, iy, rfl, rfl⟩
  · rintro ⟨u, v⟩ rest r s' ⟨hr, rfl, x', y', vs', ws', hz, hx', hy', hdec, hlen⟩
    cases hx' with
    | nil => simp at hz
    | @cons k1 t1 vs'' x'' hx'' =>
      cases hy' with
      | nil => simp at hz
      | @cons k2 t2 ws'' y'' hy'' =>
        simp only [List.zip_cons_cons, List.cons.injEq, Prod.mk.injEq] at hz
        obtain ⟨⟨rfl, rfl⟩, rfl⟩ := hz
        refine wpAny_bind (wpAny_eqBool_int ?_)
        by_cases hk : k1 = k2
        · subst hk
          simp only [beq_self_eq_true, Bool.not_true, Bool.false_eq_true, if_false]
          refine wpAny_pure ⟨rfl, rfl, x'', y'', vs'', ws'', rfl, hx'', hy'', ?_, by simpa using hlen⟩
          rw [← hdec]; simp [lexLt]
        · have hb : (k1 == k2) = false := by simpa using hk
          rw [hb]
          simp only [Bool.not_false, if_true]
          have hf : lexLt x y = decide (k1 < k2) := by rw [← hdec]; simp [lexLt, hk]
          rw [hf] at h
          refine wpAny_bind (wpAny_rule ?_)
          refine wpAny_bind (show wpAny _ _ (compareOp .Lt (.int k1 t1) (.int k2 t2)) _ _ _ from PyProof.Rows.lt_int ?_)
          exact wpAny_bind (wpAny_pure (wpAny_pure (wpAny_pure h)))
  · rintro ⟨r1, r2⟩ s' ⟨hr, rfl, x', y', vs', ws', hz, hx', hy', hdec, hlen⟩
    simp only at hr
    subst hr
    refine wpAny_pure ?_
    have hfin : decide (vs.length < ws.length) = lexLt x y := by
      rw [← hdec, ← hlen]
      exact (lex_zip_nil hx' hy' hz.symm).symm
    have e : Builtin.Tuple.tupleCompareSizes .Lt vs.toArray.size ws.toArray.size = .bool (lexLt x y) := by
      rw [← hfin]; simp [Builtin.Tuple.tupleCompareSizes]
    show P (.done (.ret (Builtin.Tuple.tupleCompareSizes .Lt vs.toArray.size ws.toArray.size))) s'
    rw [e]; exact h

theorem tuple_lt {x y : List Int} {a b : Addr} {vs ws : List Value} {k m : Nat} {Q : Value → Shared → Prop} (hu : A.units < cLine) (hx : IsT s.heap a vs.toArray k) (hy : IsT s.heap b ws.toArray m) (ix : IntsAre vs x) (iy : IntsAre ws y)
    (h : Q (.bool (lexLt x y)) s) : wpAny (model prog w) A (richCompare .Lt (.ref a) (.ref b)) Q E s :=
  wpAny_richCompare_same_room (op := .Lt) (T := "tuple") ⟨_, hx, rfl⟩ ⟨_, hy, rfl⟩ F.slot_tuple_lt
    (wpAny_call_entry F.slot_tuple_lt ⟨_, hx, rfl⟩ F.entry_tuple_lt (tuple_lt_tree hx hy ix iy ⟨_, rfl, (fun e => nomatch e), h⟩) (F.args_tuple_lt_2 _ _)) hu
end

section
variable {X : Cx} {σ : St} {n : Nat} {P : Bool → St → Prop} {pos : Pos}
theorem Cmp_ltT (ok : X.Ok n) {x y : List Int} (h : P (lexLt x y) σ) : Cmp2 X .Lt (.tup (x.map Val.int)) (.tup (y.map Val.int)) σ P := fun s va vb R ra rb => by
  obtain ⟨a, ia, ka, rfl, ea, _, rva⟩ := ra.tup_inv
  obtain ⟨b, ib, kb, rfl, eb, _, rvb⟩ := rb.tup_inv
  exact tuple_lt (by have := ok.units; (first | lia | omega)) ea eb rva.ints rvb.ints (boolQ R h)

/-! a list's truth -/
theorem Tru_list {V : Val} {vs : List Val} (hs : SeqOf σ V vs) (hl : vs.length < 2 ^ 62) (h : P (decide (vs ≠ [])) σ) : Tru X V σ P := fun s va R ra => by
  obtain ⟨l, items, k, rfl, e, rvs⟩ := hs.open R ra
  refine wpAny_truthy_list (PySem.IsL.isList e) (by simp [rvs.length]; (first | lia | omega)) ?_
  have g := R.toks (t := s.toks + 1 + 1)
  refine ⟨_, σ, rfl, g.1, g.2, ?_⟩
  rw [show (!items.toArray.isEmpty) = decide (vs ≠ []) from by
    have := rvs.length
    cases items <;> cases vs <;> simp_all]
  exact h
end

end Mine
end
section
open PySem PySem.W PyProof.Rows PySem.Calls
namespace Mine

section
variable {X : Cx} {σ : St} {n : Nat} {pos apos : Pos} {Q : Val → St → Prop}

/-! methods of a tracked list -/
theorem noDictL {h : Heap} {l : Addr} {items : Array Value} {k : Nat} (e : IsL h l items k) : h.NoDictAt (.ref l) := ⟨_, e, rfl⟩

theorem AE_append {o e : Expr} {pl : Sem Bool} (h : AE X o σ (fun a σ1 => ∃ l us, a = .ref l ∧ σ1.mem l = some (.list us) ∧ AE X e σ1 (fun V σ2 => ∃ vs, σ2.mem l = some (.list vs) ∧ vs.length < 16777216 ∧ Q .none (σ2.put l (.list (vs ++ [V]))))))
    (ha : backTo pos (starEach [e] X.env) = [(false, eval e X.env)])
    (he : eval (.Call (.Attribute o (Str.ofString "append") apos) [e] [] pos) X.env = (do
      let ov ← eval o X.env
      standAt apos.atName
      let (f, first) ← holding [ov] (getMethod ov (Str.ofString "append") pl)
      callWith pos f first (backTo pos (starEach [e] X.env)) [])) : AE X (.Call (.Attribute o (Str.ofString "append") apos) [e] [] pos) σ Q := fun s R => by
  refine MethodCall_ (wpAny_mono (h s R) ?_ fun _ _ e => e) he
  rintro va s1 ⟨a, σ1, ra, R1, x1, l, us, rfl, hm, hk⟩
  obtain rfl : va = .ref l := by cases ra; rfl
  obtain ⟨iu, ku, eu, ru⟩ := R1.isL hm
  refine getMethod_list_of F.slot_list_append F.type_list_append (PySem.IsL.isList eu) (noDictL eu) ?_
  rw [ha]
  refine P.append_list (wpAny_mono (hk s1 R1) ?_ fun _ _ e => e)
  rintro v s2 ⟨V, σ2, rv, R2, x2, vs, hm2, hl, q⟩
  obtain ⟨items, k, e2, rvs⟩ := R2.isL hm2
  refine ⟨_, _, sz (by simp [rvs.length]; (first | lia | omega)), e2, ?_⟩
  have el := PySem.IsL.update e2 (·.push v)
  rw [show items.toArray.push v = (items ++ [v]).toArray from by simp] at el
  have kp : ∀ b o, b ≠ l → s2.heap.get? b = some o → (s2.heap.update l (Obj.mapSeq (·.push v))).get? b = some o := fun b o q e => (Heap.get?_update_other _ _ (Ne.symm q)).trans e
  have pm : ∀ b, σ2.mem b = none → b ≠ l := fun b m q => by rw [q, hm2] at m; cases m
  have g := R2.upd (t := s2.toks) (bx' := .list (vs ++ [V])) hm2 kp ⟨items ++ [v], _, el, (rvs.snoc rv).mono fun b o e m _ => ⟨kp b o (pm b m) e, by rw [St.put_mem, if_neg (pm b m)]; exact m⟩⟩
  exact ⟨_, _, .none, g.1, (x1.trans R1 x2).trans R2 g.2, q⟩

theorem AE_pop {o : Expr} {pl : Sem Bool} (h : AE X o σ (fun a σ1 => ∃ l vs V, a = .ref l ∧ σ1.mem l = some (.list (vs ++ [V])) ∧ vs.length < 16777216 ∧ Q V (σ1.put l (.list vs))))
    (ha : backTo pos (starEach [] X.env) = [])
    (he : eval (.Call (.Attribute o (Str.ofString "pop") apos) [] [] pos) X.env = (do
      let ov ← eval o X.env
      standAt apos.atName
      let (f, first) ← holding [ov] (getMethod ov (Str.ofString "pop") pl)
      callWith pos f first (backTo pos (starEach [] X.env)) [])) : AE X (.Call (.Attribute o (Str.ofString "pop") apos) [] [] pos) σ Q := fun s R => by
  refine MethodCall_ (wpAny_mono (h s R) ?_ fun _ _ e => e) he
  rintro va s1 ⟨a, σ1, ra, R1, x1, l, vs, V, rfl, hm, hl, q⟩
  obtain rfl : va = .ref l := by cases ra; rfl
  obtain ⟨items, k, e1, rvs⟩ := R1.isL hm
  refine getMethod_list_of F.slot_list_pop F.type_list_pop (PySem.IsL.isList e1) (noDictL e1) ?_
  rw [ha]
  have hlen : items.length = vs.length + 1 := by rw [rvs.length]; simp
  obtain ⟨v, hv, rv⟩ := rvs.get (k := vs.length) (V := V) (by simp)
  refine P.pop_list e1 (y := v) (by rw [show items.toArray.size - 1 = vs.length from by simp [hlen], List.getElem?_toArray]; exact hv) ?_ (sz (by simp [hlen]; (first | lia | omega)))
  have el := PySem.IsL.update e1 (fun xs => xs.eraseIdxIfInBounds (items.toArray.size - 1))
  rw [show items.toArray.eraseIdxIfInBounds (items.toArray.size - 1) = (items.take vs.length).toArray from by
    rw [Array.eraseIdxIfInBounds]
    have : items.toArray.size - 1 = vs.length := by simp [hlen]
    rw [dif_pos (by simp [hlen])]
    simp only [this, List.eraseIdx_toArray]
    congr 1
    rw [List.eraseIdx_eq_take_drop_succ]
    have : items.drop (vs.length + 1) = [] := List.drop_eq_nil_of_le (by (first | lia | omega))
    rw [this, List.append_nil]] at el
  have kp : ∀ b o, b ≠ l → s1.heap.get? b = some o → (s1.heap.update l (Obj.mapSeq fun xs => xs.eraseIdxIfInBounds (items.toArray.size - 1))).get? b = some o := fun b o q e => (Heap.get?_update_other _ _ (Ne.symm q)).trans e
  have pm : ∀ b, σ1.mem b = none → b ≠ l := fun b m q => by rw [q, hm] at m; cases m
  have rt : RVs s1.heap σ1.mem (items.take vs.length) vs := by simpa using rvs.take vs.length
  have mm : ∀ b o, s1.heap.get? b = some o → σ1.mem b = none → isSeqObj o → (s1.heap.update l (Obj.mapSeq fun xs => xs.eraseIdxIfInBounds (items.toArray.size - 1))).get? b = some o ∧ (σ1.put l (.list vs)).mem b = none :=
    fun b o e m _ => ⟨kp b o (pm b m) e, by rw [St.put_mem, if_neg (pm b m)]; exact m⟩
  have g := R1.upd (t := s1.toks) (bx' := .list vs) hm kp ⟨items.take vs.length, _, el, rt.mono mm⟩
  exact ⟨V, _, rv.mono mm, g.1, x1.trans R1 g.2, q⟩

/-! slices -/
/-! sums, the greatest, the least -/
end

end Mine
end
section
open PySem PySem.W PyProof.Rows PySem.Calls
namespace Mine

section
variable {X : Cx} {σ : St} {n : Nat} {pos p : Pos}

/-! a built-in type, called -/
theorem call_type_run (ok : X.Ok n) {x : Str} {T : String} {e : Expr} {args : List Expr} {s : Shared} {K : List Val → St → Prop} (N : BName X x (.type T)) (he : starEach (e :: args) X.env = (false, eval e X.env) :: starEach args X.env)
    (hp : (backTo pos (starEach args X.env)).any (·.1) = false) (h : AEs X pos (e :: args) σ K) (R : Rep X σ s) {Q' : Value → Shared → Prop}
    (hk : ∀ vs Vs σ' s', RVs s'.heap σ'.mem vs Vs → Rep X σ' s' → Ext X σ s σ' s' → K Vs σ' → wpAny X.M X.A (call (.type T) vs) Q' (fun _ _ => False) s') :
    wpAny X.M X.A (eval (.Call (.Name x p) (e :: args) [] pos) X.env) Q' (fun _ _ => False) s := by
  refine PyProof.Rows.Call_ (name_builtin ok R N.kind N.dbg N.free N.ne N.boot ?_)
  have h' : wpAny X.M X.A (spliced (backTo pos (starEach (e :: args) X.env))) (fun vs s' => wpAny X.M X.A (call (.type T) ([] ++ vs) []) Q' (fun _ _ => False) s') (fun _ _ => False) s := by
    refine wpAny_mono (h s R) ?_ fun _ _ e => e
    rintro vs s1 ⟨Vs, σ1, rvs, R1, x1, q⟩
    exact hk vs Vs σ1 s1 rvs R1 x1 q
  rw [he] at h' ⊢
  exact PyProof.Rows.callWith_type (by show (false || (backTo pos (starEach args X.env)).any (·.1)) = false; rw [hp]; rfl) (evalArgs_plain h')

/-! ranges -/
def rangeL (a b c : Int) : List Int := (List.range (Builtin.Range.rangeSize a b c).toNat).map fun (i : Nat) => a + (i : Int) * c

theorem rangeSize_nonneg (a b c : Int) (hc : c ≠ 0) : 0 ≤ Builtin.Range.rangeSize a b c := by
  unfold Builtin.Range.rangeSize
  split
  · split
    · have : 0 ≤ (b - a - 1) / c := Int.ediv_nonneg (by (first | lia | omega)) (by (first | lia | omega))
      (first | lia | omega)
    · exact Int.le_refl _
  · split
    · have : 0 ≤ (a - b - 1) / -c := Int.ediv_nonneg (by (first | lia | omega)) (by (first | lia | omega))
      (first | lia | omega)
    · exact Int.le_refl _

theorem touch_one {s : Shared} {h' : Heap} {t : Nat} {I : Addr} (R : Rep X σ s) (hk : ∀ b o, b ≠ I → s.heap.get? b = some o → h'.get? b = some o) (h1 : X.B.h₁.get? I = none) (hL : I ≠ X.f.L) (hm : σ.mem I = none)
    (ho : ∀ o, s.heap.get? I = some o → ¬ isSeqObj o ∧ ∀ v, o.data ≠ .cell v) : Rep X σ { s with heap := h', toks := t } :=
  R.touch (W := (· = I)) (fun b o q e => hk b o q e) fun b q => by subst q; exact ⟨h1, hL, hm, ho⟩

theorem It.range (ok : X.Ok n) {tg : Expr} (ht : ∃ x p, tg = .Name x p) {I : Addr} {a c : Int} {m : Nat} (hI1 : X.B.h₁.get? I = none) (hIL : I ≠ X.f.L) (hIo : I ∉ X.f.own) :
    It X tg I (· = I) (fun i σ h => IsRangeIter h I (a + (i : Int) * c) ((m : Int) - i) c ∧ σ.mem I = none) ((List.range m).map fun (i : Nat) => Val.int (a + (i : Int) * c)) (fun _ => True) where
  frame := by
    rintro i σ s σ' s' ⟨hit, hm⟩ R x R' _
    exact ⟨x.keep I _ hit hm hIL hIo, x.mem I _ hit hm⟩
  turn := by
    rintro i σ s W R ⟨hit, hm⟩ hV
    obtain ⟨x, p, rfl⟩ := ht
    have him : i < m := by
      have := (List.getElem?_eq_some_iff.mp hV).1
      simpa using this
    have eW : W = Val.int (a + (i : Int) * c) := by
      rw [List.getElem?_map, List.getElem?_range him] at hV
      exact (Option.some.inj hV).symm
    subst eW
    refine wpAny_pyNext_range_item hit (by (first | lia | omega)) fun h' hit' hs' => ⟨_, rfl, wpAny_pure ?_⟩
    refine ⟨h', s.toks + 1, rfl, touch_one R (fun b o q e => hs'.extBut b o q e) hI1 hIL hm (fun o ho => ?_), .int _ _, ⟨?_, hm⟩, fun b o q e => hs'.extBut b o q e⟩
    · rw [hit] at ho; cases ho
      exact ⟨(fun ⟨_, _, q⟩ => nomatch q), (fun v q => nomatch q)⟩
    · have e1 : a + ((i + 1 : Nat) : Int) * c = a + (i : Int) * c + c := by push_cast; rw [Int.add_mul, Int.one_mul, Int.add_assoc]
      have e2 : (m : Int) - ((i + 1 : Nat) : Int) = (m : Int) - (i : Int) - 1 := by push_cast; (first | lia | omega)
      rw [e1, e2]; exact hit'
  done := by
    rintro σ s R ⟨hit, hm⟩
    refine wpAny_pyNext_range_end ok.handled hit (by simp) fun h' hx => ⟨rfl, h', s.toks, rfl, touch_one R (fun b o q e => hx b o q e) hI1 hIL hm (fun o ho => ?_), fun b o q e => hx b o q e⟩
    rw [hit] at ho; cases ho
    exact ⟨(fun ⟨_, _, q⟩ => nomatch q), (fun v q => nomatch q)⟩
  self := fun i σ s ⟨hit, _⟩ => wpAny_pyIter_rangeiter hit ⟨rfl, rfl⟩

/-- a range object at hand -/
theorem range_iter {tg : Expr} (ht : ∃ x p, tg = .Name x p) {a b c : Int} {t u v : Tok} {r : Addr} {s s' : Shared} {σ' : St} {K : List Val → (St → Prop) → St → Prop} (hc : c ≠ 0) (hsm : Builtin.Range.small a b c = true)
    (R' : Rep X σ' s') (x' : Ext X σ s σ' s') (hr : IsRange s'.heap r a b c t u v) (hK : K ((rangeL a b c).map Val.int) (fun _ => True) σ') :
    wpAny X.M X.A (pyIter (.ref r)) (fun it s2 => Walking X tg σ s K it s2) (fun _ _ => False) s' := by
  refine wpAny_pyIter_range hr hsm ?_
  have g := R'.grow (h' := s'.heap.push { cls := .type "range_iterator", data := .fields #[rawInt a, rawInt (Builtin.Range.rangeSize a b c), rawInt c] }) (t := s'.toks) fun b o e => Heap.get?_push_of_some _ e
  have tp := R'.top
  have hn : ((Builtin.Range.rangeSize a b c).toNat : Int) = Builtin.Range.rangeSize a b c := Int.toNat_of_nonneg (rangeSize_nonneg a b c hc)
  refine ⟨s'.heap.objs.size, (· = s'.heap.objs.size), _, _, _, σ', rfl, fun X' eB eA ⟨n', ok'⟩ hd => It.range ok' ht (a := a) (c := c) (m := (Builtin.Range.rangeSize a b c).toNat) (eB ▸ tp.1) (hd _ rfl).1 (hd _ rfl).2, ⟨?_, tp.2.2.2⟩, g.1, x'.trans R' g.2, ?_, trivial, ?_⟩
  · show IsRangeIter _ _ _ _ _
    rw [hn]
    have := Heap.get?_push_size s'.heap (o := { cls := .type "range_iterator", data := .fields #[rawInt a, rawInt (Builtin.Range.rangeSize a b c), rawInt c] }) rfl
    simpa using this
  · rintro b rfl
    refine ⟨?_, tp.2.1, tp.2.2.1, _, Heap.get?_push_size _ rfl, (fun ⟨_, _, q⟩ => nomatch q), (fun v q => nomatch q)⟩
    cases q : s.heap.get? s'.heap.objs.size with
    | none => rfl
    | some o =>
      obtain ⟨o', e'⟩ := x'.live _ o q
      rw [heap_top_none] at e'; cases e'
  · have e : (rangeL a b c).map Val.int = (List.range (Builtin.Range.rangeSize a b c).toNat).map fun (i : Nat) => Val.int (a + (i : Int) * c) := by
      unfold rangeL; rw [List.map_map]; rfl
    rw [← e]; exact hK

theorem pushed {s : Shared} {o : Obj} {t : Nat} (R : Rep X σ s) : Rep X σ { s with heap := s.heap.push o, toks := t } ∧ Ext X σ s σ { s with heap := s.heap.push o, toks := t } := R.grow fun _ _ e => Heap.get?_push_of_some _ e

theorem AI_range2 (ok : X.Ok n) {tg e e' : Expr} {K : List Val → (St → Prop) → St → Prop} (ht : ∃ x p, tg = .Name x p) (N : BName X (Str.ofString "range") (.type "range"))
    (he : starEach [e, e'] X.env = (false, eval e X.env) :: starEach [e'] X.env) (he' : starEach [e'] X.env = [(false, eval e' X.env)])
    (h : AE X e σ (fun V σ1 => AE X e' σ1 (fun V' σ2 => ∃ a b, V = .int a ∧ V' = .int b ∧ Builtin.Range.small a b 1 = true ∧ K ((rangeL a b 1).map Val.int) (fun _ => True) σ2))) :
    AI X tg (.Call (.Name (Str.ofString "range") p) [e, e'] [] pos) σ K := fun s R => by
  refine call_type_run (K := fun Vs σ1 => ∃ a b, Vs = [.int a, .int b] ∧ Builtin.Range.small a b 1 = true ∧ K ((rangeL a b 1).map Val.int) (fun _ => True) σ1) ok N he (by rw [he']; rfl)
    (AEs_cons he (h.mono fun V σ1 h1 => AEs_cons he' (h1.mono fun V' σ2 ⟨a, b, hV, hV', h2, h3⟩ => AEs_nil ⟨a, b, by rw [hV, hV'], h2, h3⟩))) R ?_
  rintro vs Vs σ' s' rvs R' x' ⟨a, b, rfl, hsm, hK⟩
  cases rvs with
  | cons rv r =>
    cases r with
    | cons rw r =>
      cases r
      obtain ⟨t, rfl⟩ := rv.int_inv
      obtain ⟨u, rfl⟩ := rw.int_inv
      refine call_range_2 ?_
      have g := pushed (o := { cls := .type "range", data := .fields #[.int a t, .int b u, .int 1 s'.toks] }) (t := s'.toks + 1) R'
      exact range_iter ht (by decide) hsm g.1 (x'.trans R' g.2) (Heap.get?_push_size _ rfl) hK

theorem small_1 {a b : Int} (ha : -(2 ^ 40) ≤ a) (ha' : a ≤ 2 ^ 40) (hb : -(2 ^ 40) ≤ b) (hb' : b ≤ 2 ^ 40) : Builtin.Range.small a b 1 = true := by
  have e : Builtin.Range.rangeSize a b 1 = if a < b then b - a else 0 := by
    unfold Builtin.Range.rangeSize
    rw [if_pos (by decide)]
    split
    · rw [Int.ediv_one]; (first | lia | omega)
    · rfl
  unfold Builtin.Range.small
  rw [e]
  simp only [Builtin.Range.rangeFitsLong, Bool.and_eq_true, Bool.or_eq_true, decide_eq_true_eq, beq_iff_eq]
  split <;> simp <;> (first | lia | omega)

theorem rangeL_1 (a b : Int) : rangeL a b 1 = (List.range (b - a).toNat).map fun (i : Nat) => a + (i : Int) := by
  have e : (Builtin.Range.rangeSize a b 1).toNat = (b - a).toNat := by
    unfold Builtin.Range.rangeSize
    rw [if_pos (by decide)]
    split
    · rw [Int.ediv_one]; congr 1; (first | lia | omega)
    · simp; (first | lia | omega)
  unfold rangeL
  rw [e]
  simp

/-! enumerate -/
theorem It.enum (ok : X.Ok n) {tg : Expr} (ht : ∃ ts k p, tg = .Tuple ts k p) {I J l : Addr} {V : Val} {vs : List Val} (hIJ : I ≠ J) (hI1 : X.B.h₁.get? I = none) (hIL : I ≠ X.f.L) (hIo : I ∉ X.f.own) (hJ1 : X.B.h₁.get? J = none) (hJL : J ≠ X.f.L) (hJo : J ∉ X.f.own) :
    It X tg I (fun b => b = I ∨ b = J) (fun i σ h => (∃ old, IsEnum h I J i old) ∧ h.IsListIter J l i ∧ σ.mem I = none ∧ σ.mem J = none ∧ RV h σ.mem (.ref l) V ∧ SeqOf σ V vs) (vs.mapIdx fun i v => Val.tup [.int i, v]) (fun σ => SeqOf σ V vs) where
  frame := by
    rintro i σ s σ' s' ⟨⟨old, he⟩, ⟨o, ho, hc, hd⟩, hm, hm2, hr, _⟩ R x R' hst
    exact ⟨⟨old, x.keep I _ he hm hIL hIo⟩, ⟨o, x.keep J o ho hm2 hJL hJo, hc, hd⟩, x.mem I _ he hm, x.mem J o ho hm2, x.rv R hr, hst⟩
  turn := by
    rintro i σ s W R ⟨⟨old, he⟩, hit, hm, hm2, hr, hsq⟩ hV'
    obtain ⟨ts, k, p, rfl⟩ := ht
    obtain ⟨a, items, kk, ea, e, rvs⟩ := hsq.open R hr
    cases ea
    rw [List.getElem?_mapIdx] at hV'
    obtain ⟨U, hU, rfl⟩ := Option.map_eq_some_iff.mp hV'
    obtain ⟨v, hv, rv⟩ := rvs.get hU
    refine wpAny_pyNext_enum_item he hit (PySem.IsL.isList e) (x := v) (by simpa using hv) hIJ fun h' ho hit' hT hsz hk => ⟨_, rfl, wpAny_letOwnedTupleGo_enum ho fun h2 he2 hs2 => ?_⟩
    have oI : ∀ o, s.heap.get? I = some o → ¬ isSeqObj o ∧ ∀ v, o.data ≠ .cell v := fun o h => by
      rw [he] at h; cases h; exact ⟨(fun ⟨_, _, q⟩ => nomatch q), (fun v q => nomatch q)⟩
    have oJ : ∀ o, s.heap.get? J = some o → ¬ isSeqObj o ∧ ∀ v, o.data ≠ .cell v := fun o h => by
      obtain ⟨o', ho', _, hd⟩ := hit
      rw [h] at ho'; cases ho'
      exact ⟨(fun ⟨_, _, q⟩ => absurd (hd.symm.trans q) nofun), (fun v q => absurd (hd.symm.trans q) nofun)⟩
    have kp : ∀ b o, ¬ (b = I ∨ b = J) → s.heap.get? b = some o → h2.get? b = some o := fun b o q e => hs2.extBut b o (fun z => q (.inl z)) (hk b o (fun z => q (.inl z)) (fun z => q (.inr z)) e)
    have ks : ∀ b o, s.heap.get? b = some o → σ.mem b = none → isSeqObj o → h2.get? b = some o ∧ σ.mem b = none := fun b o e m q => ⟨kp b o (fun z => by
      rcases z with rfl | rfl
      · exact (oI o e).1 q
      · exact (oJ o e).1 q) e, m⟩
    have R' : Rep X σ { s with heap := h2, toks := s.toks + 1 } := R.touch (W := fun b => b = I ∨ b = J) kp fun b q => by
      rcases q with rfl | rfl
      · exact ⟨hI1, hIL, hm, oI⟩
      · exact ⟨hJ1, hJL, hm2, oJ⟩
    have hTI : s.heap.objs.size ≠ I := fun q => absurd (Heap.lt_size he) (by rw [← q]; exact Nat.lt_irrefl _)
    have hIt2 : h2.IsListIter J l (i + 1) := by
      obtain ⟨o, a1, a2⟩ := hit'
      exact ⟨o, hs2.extBut J o (Ne.symm hIJ) a1, a2⟩
    refine ⟨h2, s.toks + 1, rfl, R', ?_, ⟨⟨v, ?_⟩, hIt2, hm, hm2, hr.mono ks, hsq⟩, kp⟩
    · exact .tup (items := [.int i s.toks, v]) (n := 0) (hs2.extBut _ _ hTI hT) R.top.2.2.2 (.cons (.int _ _) (.cons (rv.mono ks) .nil))
    · simpa using he2
  done := by
    rintro σ s R ⟨⟨old, he⟩, hit, hm, hm2, hr, hsq⟩
    obtain ⟨a, items, kk, ea, e, rvs⟩ := hsq.open R hr
    cases ea
    have oJ : ∀ o, s.heap.get? J = some o → ¬ isSeqObj o ∧ ∀ v, o.data ≠ .cell v := fun o h => by
      obtain ⟨o', ho', _, hd⟩ := hit
      rw [h] at ho'; cases ho'
      exact ⟨(fun ⟨_, _, q⟩ => absurd (hd.symm.trans q) nofun), (fun v q => absurd (hd.symm.trans q) nofun)⟩
    refine wpAny_pyNext_enum_end ok.handled he hit (PySem.IsL.isList e) (by simp [rvs.length]) fun h' hx => ⟨rfl, h', s.toks, rfl, touch_one R (fun b o q e => hx b o q e) hJ1 hJL hm2 oJ, fun b o q e => hx b o (fun z => q (.inr z)) e⟩
  self := fun i σ s ⟨⟨old, he⟩, _⟩ => wpAny_pyIter_enum he ⟨rfl, rfl⟩

theorem AI_enum (ok : X.Ok n) {tg e : Expr} {K : List Val → (St → Prop) → St → Prop} (ht : ∃ ts k p, tg = .Tuple ts k p) (N : BName X (Str.ofString "enumerate") (.type "enumerate"))
    (he : starEach [e] X.env = [(false, eval e X.env)]) (h : AE X e σ (fun V σ1 => ∃ vs, SeqOf σ1 V vs ∧ K (vs.mapIdx fun i v => Val.tup [.int i, v]) (fun σ' => SeqOf σ' V vs) σ1)) :
    AI X tg (.Call (.Name (Str.ofString "enumerate") p) [e] [] pos) σ K := fun s R => by
  refine call_type_run (K := fun Vs σ1 => ∃ V vs, Vs = [V] ∧ SeqOf σ1 V vs ∧ K (vs.mapIdx fun i v => Val.tup [.int i, v]) (fun σ' => SeqOf σ' V vs) σ1) ok N he (by rfl) (AEs_cons he (h.mono fun V σ1 ⟨vs, h1, h2⟩ => AEs_nil ⟨V, vs, rfl, h1, h2⟩)) R ?_
  rintro vs' Vs σ' s' rvs R' x' ⟨V, vs, rfl, hsq, hK⟩
  cases rvs with
  | cons rv r =>
    cases r
    obtain ⟨l, items, k, rfl, e, rvs⟩ := hsq.open R' rv
    refine call_enumerate_list (PySem.IsL.isList e) fun h' hen hit hsz hk => ?_
    refine wpAny_pyIter_enum hen ?_
    have g := R'.grow (t := s'.toks) hk
    have notlive : ∀ c, s'.heap.objs.size ≤ c → s'.heap.get? c = none := fun c hc => Heap.get?_none_of_le hc
    have fI := R'.fresh (notlive (s'.heap.objs.size + 1) (Nat.le_succ _))
    have tp := R'.top
    have hL : s'.heap.objs.size + 1 ≠ X.f.L := fun q => by
      obtain ⟨m, ⟨o, _, _, ho, _⟩, _⟩ := R'.env
      rw [← q, notlive _ (Nat.le_succ _)] at ho; cases ho
    have hO : s'.heap.objs.size + 1 ∉ X.f.own := fun q => by
      obtain ⟨m, _, _, hc, _⟩ := R'.env
      obtain ⟨_, v, o', ho', _⟩ := hc _ (.inl q)
      rw [notlive _ (Nat.le_succ _)] at ho'; cases ho'
    refine ⟨s'.heap.objs.size + 1, (fun b => b = s'.heap.objs.size + 1 ∨ b = s'.heap.objs.size), _, _, _, σ', rfl, fun X' eB eA ⟨n', ok'⟩ hd => It.enum ok' ht (l := l) (V := V) (vs := vs) (Nat.succ_ne_self _) (eB ▸ fI.2) (hd _ (.inl rfl)).1 (hd _ (.inl rfl)).2 (eB ▸ tp.1) (hd _ (.inr rfl)).1 (hd _ (.inr rfl)).2,
      ⟨⟨_, hen⟩, hit, fI.1, tp.2.2.2, g.2.rv R' rv, hsq⟩, g.1, x'.trans R' g.2, ?_, hsq, hK⟩
    intro b hb
    refine ⟨?_, ?_⟩
    · cases q : s.heap.get? b with
      | none => rfl
      | some o =>
        obtain ⟨o', e'⟩ := x'.live _ o q
        rcases hb with rfl | rfl
        · rw [notlive _ (Nat.le_succ _)] at e'; cases e'
        · rw [notlive _ (Nat.le_refl _)] at e'; cases e'
    · rcases hb with rfl | rfl
      · exact ⟨hL, hO, _, hen, (fun ⟨_, _, q⟩ => nomatch q), (fun v q => nomatch q)⟩
      · obtain ⟨o, ho, _, hd⟩ := hit
        exact ⟨tp.2.1, tp.2.2.1, o, ho, (fun ⟨_, _, q⟩ => absurd (hd.symm.trans q) nofun), (fun v q => absurd (hd.symm.trans q) nofun)⟩
end

end Mine
end
section
open PySem PySem.W PyProof.Rows PySem.Calls
namespace Mine

/-! the block of a comprehension: its names, its cells -/
def closL (cells : List (Str × Addr)) : List (Str × NameKind) → List (Str × Addr) → List (Str × Addr)
  | [], acc => acc
  | (x, k) :: r, acc => closL cells r (if k == .free then (x, (cells.lookup x).getD 0) :: acc else acc)

theorem closL_lookup {cells : List (Str × Addr)} : ∀ (names : List (Str × NameKind)) (acc : List (Str × Addr)), (∀ x ∈ names, x.2 = .free → (cells.lookup x.1).isSome = true) → (∀ x c, acc.lookup x = some c → cells.lookup x = some c) →
    ∀ x c, (closL cells names acc).lookup x = some c → cells.lookup x = some c
  | [], acc, _, ha, x, c, h => ha x c h
  | (y, k) :: r, acc, hf, ha, x, c, h => by
    refine closL_lookup r _ (fun z hz => hf z (.tail _ hz)) ?_ x c h
    intro z d hd
    split at hd
    · rename_i hk
      rw [List.lookup_cons] at hd
      cases hz : z == y with
      | true =>
        rw [hz] at hd
        have e : z = y := by simpa using hz
        subst e
        cases hd
        obtain ⟨c', hc'⟩ := Option.isSome_iff_exists.mp (hf (z, k) (.head _) (by simpa using hk))
        have hc'' : cells.lookup z = some c' := hc'
        rw [hc'']; rfl
      | false => rw [hz] at hd; exact ha z d hd
    · exact ha z d hd
theorem closL_some {cells : List (Str × Addr)} : ∀ (names : List (Str × NameKind)) (acc : List (Str × Addr)) (x : Str), (x, NameKind.free) ∈ names ∨ (acc.lookup x).isSome = true → ((closL cells names acc).lookup x).isSome = true
  | [], acc, x, h => by
    rcases h with h | h
    · cases h
    · exact h
  | (y, k) :: r, acc, x, h => by
    refine closL_some r _ x ?_
    rcases h with h | h
    · rcases List.mem_cons.mp h with e | h
      · cases e
        right
        rw [if_pos (by rfl), List.lookup_cons]; simp
      · exact .inl h
    · right
      split
      · rw [List.lookup_cons]
        cases x == y <;> simp [h]
      · exact h
theorem closL_mem {cells : List (Str × Addr)} : ∀ (names : List (Str × NameKind)) (acc : List (Str × Addr)), (∀ x ∈ names, x.2 = .free → (cells.lookup x.1).isSome = true) → (∀ x c, (x, c) ∈ acc → ∃ y, cells.lookup y = some c) →
    ∀ x c, (x, c) ∈ closL cells names acc → ∃ y, cells.lookup y = some c
  | [], acc, _, ha, x, c, h => ha x c h
  | (y, k) :: r, acc, hf, ha, x, c, h => by
    refine closL_mem r _ (fun z hz => hf z (.tail _ hz)) ?_ x c h
    intro z d hd
    split at hd
    · rename_i hk
      rcases List.mem_cons.mp hd with e | hd
      · obtain ⟨c', hc'⟩ := Option.isSome_iff_exists.mp (hf (y, k) (.head _) (by simpa using hk))
        have hc'' : cells.lookup y = some c' := hc'
        rw [hc''] at e
        cases e
        exact ⟨y, hc''⟩
      · exact ha z d hd
    · exact ha z d hd
theorem closureFor_eq {scope : Scope} {env : Env} (h : ∀ x ∈ scope.names, x.2 = .free → (env.cells.lookup x.1).isSome = true) : closureFor scope env = pure (closL env.cells scope.names []) := by
  have go : ∀ (names : List (Str × NameKind)) (acc : List (Str × Addr)), (∀ x ∈ names, x.2 = .free → (env.cells.lookup x.1).isSome = true) →
      (forIn names acc fun (x : Str × NameKind) (r : List (Str × Addr)) => (if (x.2 == NameKind.free) = true then do let c ← cellOf env x.1; pure (ForInStep.yield ((x.1, c) :: r)) else pure (ForInStep.yield r) : Sem _)) = pure (closL env.cells names acc) := by
    intro names
    induction names with
    | nil => intro acc _; rfl
    | cons y r ih =>
      obtain ⟨y, k⟩ := y
      intro acc hf
      rw [List.forIn_cons]
      by_cases hk : (k == NameKind.free) = true
      · have hk' : k = .free := by simpa using hk
        subst hk'
        obtain ⟨c, hc⟩ := Option.isSome_iff_exists.mp (hf (y, .free) (.head _) rfl)
        have hc : env.cells.lookup y = some c := hc
        have hcell : cellOf env y = pure c := by unfold cellOf; rw [hc]
        simp only [beq_self_eq_true, if_true, hcell, pure_bind]
        rw [ih _ fun z hz => hf z (.tail _ hz)]
        simp [closL, hc]
      · simp only [hk, if_false, pure_bind, Bool.false_eq_true]
        rw [ih _ fun z hz => hf z (.tail _ hz)]
        simp [closL, hk]
  have e := go scope.names [] h
  unfold closureFor
  show (forIn scope.names ([] : List (Str × Addr)) (fun (x : Str × NameKind) (r : List (Str × Addr)) => (if (x.2 == NameKind.free) = true then do let c ← cellOf env x.1; pure (ForInStep.yield ((x.1, c) :: r)) else pure (ForInStep.yield r) : Sem _)) >>= fun s => pure s) = _
  rw [e]
  rfl

theorem cellsFrom_acc : ∀ (names : List (Str × NameKind)) (n : Nat) (acc : List (Str × Addr)), cellsFrom n names acc = cellsFrom n names [] ++ acc
  | [], _, _ => rfl
  | (x, k) :: r, n, acc => by
    unfold cellsFrom
    split
    · rw [cellsFrom_acc r (n + 1) ((x, n) :: acc), cellsFrom_acc r (n + 1) [(x, n)], List.append_assoc]; rfl
    · exact cellsFrom_acc r n acc
theorem cellsFrom_mem : ∀ (names : List (Str × NameKind)) (n : Nat) (x : Str) (c : Addr), (x, c) ∈ cellsFrom n names [] → (x, NameKind.cell) ∈ names
  | [], _, _, _, h => by cases h
  | (y, k) :: r, n, x, c, h => by
    unfold cellsFrom at h
    split at h
    · rename_i hk
      rw [cellsFrom_acc] at h
      rcases List.mem_append.mp h with h | h
      · exact .tail _ (cellsFrom_mem r (n + 1) x c h)
      · have hk' : k = .cell := by simpa using hk
        cases List.mem_singleton.mp h
        rw [hk']; exact .head _
    · exact .tail _ (cellsFrom_mem r n x c h)

def compFm (X : Cx) (scope : Scope) (C : Addr) : Fm :=
  { L := C, cells := cellsFrom (C + 1) scope.names [] ++ closL X.f.cells scope.names [], own := (cellsFrom (C + 1) scope.names []).map (·.2), qual := X.f.qual, func := none, code := X.f.code, frame := X.f.frame }
def compCx (X : Cx) (scope : Scope) (C : Addr) : Cx := ⟨X.B, X.A, compFm X scope C, relabel scope X.env⟩
def St.comp (σ : St) (scope : Scope) : St := { mem := σ.mem, loc := fun x => if scope.names.lookup x = some .free then σ.loc x else none }

/-- a comprehension's block that may be entered here -/
structure CompOk (X : Cx) (scope : Scope) : Prop where
  kind : scope.kind = .function
  nodup : (scope.names.map (·.1)).Nodup
  free : ∀ x ∈ scope.names, x.2 = .free → (X.f.cells.lookup x.1).isSome = true ∧ (X.env.kindOf x.1 = some .cell ∨ X.env.kindOf x.1 = some .free)

theorem lookup_relabel {env : Env} (hk : env.scope.kind = .function) : ∀ {names : List (Str × NameKind)} {x : Str} {k : NameKind}, names.lookup x = some k →
    (names.map fun (n, k) => if (k == NameKind.free && env.scope.kind == .function && env.kindOf n == some .cell) then (n, NameKind.cell) else (n, k)).lookup x = some (if k = .free ∧ env.kindOf x = some .cell then .cell else k)
  | [], _, _, h => by simp at h
  | (n, j) :: r, x, k, h => by
    have ih := @lookup_relabel env hk r x k
    rw [List.map_cons]
    show List.lookup x ((if (j == NameKind.free && env.scope.kind == .function && env.kindOf n == some .cell) = true then (n, NameKind.cell) else (n, j)) :: _) = _
    cases hx : x == n with
    | true =>
      have e : x = n := by simpa using hx
      subst e
      simp only [List.lookup_cons, hx] at h
      cases h
      by_cases hc : (j == NameKind.free && env.scope.kind == .function && env.kindOf x == some .cell) = true
      · rw [if_pos hc]
        simp only [Bool.and_eq_true, beq_iff_eq] at hc
        simp [List.lookup_cons, hc.1.1, hc.2]
      · rw [if_neg hc]
        have : ¬ (j = .free ∧ env.kindOf x = some .cell) := fun q => hc (by simp [q.1, q.2, hk])
        simp [List.lookup_cons, this]
    | false =>
      simp only [List.lookup_cons, hx] at h
      split
      · simp only [List.lookup_cons, hx]; exact ih h
      · simp only [List.lookup_cons, hx]; exact ih h

section
variable {X : Cx} {σ : St} {n : Nat} {pos : Pos}

theorem lookup_nodup {α : Type} : ∀ {names : List (Str × α)}, (names.map (·.1)).Nodup → ∀ {x : Str} {k : α}, (x, k) ∈ names → names.lookup x = some k
  | [], _, _, _, hm => by cases hm
  | (y, j) :: r, h, x, k, hm => by
    rw [List.map_cons, List.nodup_cons] at h
    rw [List.lookup_cons]
    rcases List.mem_cons.mp hm with e | hm'
    · cases e; simp
    · have : (x == y) = false := by
        cases q : x == y with
        | false => rfl
        | true =>
          have e : x = y := by simpa using q
          subst e
          exact absurd (List.mem_map_of_mem (f := (·.1)) hm') h.1
      rw [this]
      exact lookup_nodup h.2 hm'

/-- the frame of the block is laid -/
theorem comp_enter (ok : X.Ok n) {scope : Scope} (co : CompOk X scope) {s : Shared} (R : Rep X σ s) {Q' : Env → Shared → Prop} {E' : Value → Shared → Prop}
    (hk : ∀ C h' , C = s.heap.objs.size → (∀ b o, s.heap.get? b = some o → h'.get? b = some o) → (compCx X scope C).Ok n → Rep (compCx X scope C) (σ.comp scope) { s with heap := h' } → (∀ b o, s.heap.get? b = some o → b ≠ C ∧ b ∉ (compCx X scope C).f.own) →
      ∀ cenv : Env, { cenv with scope := relabel scope X.env } = (compCx X scope C).env → cenv.locals = C → Q' cenv { s with heap := h' }) :
    wpAny X.M X.A (newFunctionEnv scope X.env.globals (closL X.f.cells scope.names []) [] X.env.qual none .none (some X.env)) Q' E' s := by
  simp only [newFunctionEnv, Option.isSome_some, if_true]
  refine wpAny_bind (wpAny_alloc ?_)
  refine wpAny_bind (wpAny_layCells _ (fun name kind cells => by cases hkc : kind == NameKind.cell <;> simp [hkc]) _ _ _ _ ?_)
  have okc := cellsFrom_ok scope.names (s.heap.push { cls := .type "dict", data := .dict #[] }) (s.heap.objs.size + 1) [] ⟨fun _ _ hm => (nomatch hm), List.Pairwise.nil⟩ (by rw [Heap.size_push]; exact Nat.le_refl _)
  rw [Heap.size_push] at okc
  rw [show ({ s with heap := s.heap.push { cls := .type "dict", data := .dict #[] } } : Shared).heap.objs.size = s.heap.objs.size + 1 from Heap.size_push ..]
  rw [List.forIn_nil]
  refine wpAny_bind (wpAny_pure (wpAny_pure ?_))
  have kp : ∀ b o, s.heap.get? b = some o → (pushCells (s.heap.push { cls := .type "dict", data := .dict #[] }) scope.names).get? b = some o := fun b o e => pushCells_keeps _ _ b o (Heap.get?_push_of_some _ e)
  have g := R.grow (t := s.toks) kp
  have notlive : ∀ c, s.heap.objs.size ≤ c → s.heap.get? c = none := fun c hc => Heap.get?_none_of_le hc
  have above : ∀ x c, (x, c) ∈ cellsFrom (s.heap.objs.size + 1) scope.names [] → s.heap.objs.size + 1 ≤ c := fun x c hm => (okc.empty x c hm).2
  have aboveO : ∀ c ∈ (compCx X scope s.heap.objs.size).f.own, s.heap.objs.size + 1 ≤ c := by
    intro c hc
    obtain ⟨⟨y, c'⟩, hm, rfl⟩ := List.mem_map.mp hc
    exact above y c' hm
  have hcl : ∀ x c, (closL X.f.cells scope.names []).lookup x = some c → X.f.cells.lookup x = some c := closL_lookup scope.names [] (fun x hx hf => (co.free x hx hf).1) (fun _ _ h => by simp at h)
  have capp : ∀ x c, (compCx X scope s.heap.objs.size).f.cells.lookup x = some c → (x, c) ∈ cellsFrom (s.heap.objs.size + 1) scope.names [] ∨ X.f.cells.lookup x = some c := by
    intro x c h
    have h' : (cellsFrom (s.heap.objs.size + 1) scope.names [] ++ closL X.f.cells scope.names []).lookup x = some c := h
    rw [List.lookup_append] at h'
    cases e : (cellsFrom (s.heap.objs.size + 1) scope.names []).lookup x with
    | some d => rw [e] at h'; cases h'; exact .inl (mem_of_lookup e)
    | none => rw [e] at h'; exact .inr (hcl x c (by simpa using h'))
  -- cells of the frame around lie below
  have below : ∀ x c, X.f.cells.lookup x = some c → c < s.heap.objs.size := fun x c h => by
    obtain ⟨m, _, _, hc, _⟩ := R.env
    obtain ⟨_, v, o, ho, _⟩ := hc c (.inr ⟨x, mem_of_lookup h⟩)
    exact Heap.lt_size ho
  have ok' : (compCx X scope s.heap.objs.size).Ok n := by
    refine ⟨ok.base, co.kind, ok.handled, ok.depth, ok.units, R.top.1, ?_, ?_⟩
    · intro c hc
      have := aboveO c hc
      exact ⟨(R.fresh (notlive c (Nat.le_of_succ_le this))).2, Nat.ne_of_gt this⟩
    · intro x y c hx hy
      rcases capp x c hx with h1 | h1 <;> rcases capp y c hy with h2 | h2
      · exact name_of_addr okc.apart h1 h2
      · exact absurd (below y c h2) (Nat.not_lt.mpr (Nat.le_of_succ_le (above x c h1)))
      · exact absurd (below x c h1) (Nat.not_lt.mpr (Nat.le_of_succ_le (above y c h2)))
      · exact ok.cellInj x y c h1 h2
  refine hk s.heap.objs.size _ rfl kp ok' ?_ ?_ _ ?_ rfl
  · refine ⟨g.1.keep, g.1.gens, g.1.os, g.1.mem, ?_⟩
    refine ⟨fun _ => none, (Heap.Ns.new s.heap (.type "dict")).keeps (pushCells_keeps _ _), R.top.2.2.2, ?_, ?_⟩
    · intro c hc
      have hnew : ∀ x, (x, c) ∈ cellsFrom (s.heap.objs.size + 1) scope.names [] → (σ.comp scope).mem c = none ∧ ∃ v, (pushCells (s.heap.push { cls := .type "dict", data := .dict #[] }) scope.names).IsCell c v := fun x hx =>
        ⟨(R.fresh (notlive c (Nat.le_of_succ_le (above x c hx)))).1, _, (okc.empty x c hx).1⟩
      rcases hc with hc | ⟨x, hx⟩
      · obtain ⟨⟨y, c'⟩, hm, rfl⟩ := List.mem_map.mp hc
        exact hnew y hm
      · rcases List.mem_append.mp (show (x, c) ∈ cellsFrom (s.heap.objs.size + 1) scope.names [] ++ closL X.f.cells scope.names [] from hx) with h1 | h1
        · exact hnew x h1
        · obtain ⟨y, hy⟩ := closL_mem scope.names [] (fun x hx hf => (co.free x hx hf).1) (fun _ _ h => by cases h) x c h1
          obtain ⟨m, _, _, hcs, _⟩ := R.env
          obtain ⟨q1, v, o, ho, hd⟩ := hcs c (.inr ⟨y, mem_of_lookup hy⟩)
          exact ⟨q1, v, o, kp c o ho, hd⟩
    · intro x V hx
      have hx' : (if scope.names.lookup x = some .free then σ.loc x else none) = some V := hx
      by_cases hf : scope.names.lookup x = some .free
      · rw [if_pos hf] at hx'
        obtain ⟨m, _, _, _, hl⟩ := id R.env
        obtain ⟨hd, v, rv, hh⟩ := hl x V hx'
        have hmf : (x, NameKind.free) ∈ scope.names := mem_of_lookup hf
        have fr := co.free (x, .free) hmf rfl
        refine ⟨hd, v, g.2.rv R rv, .inr ?_⟩
        rcases hh with ⟨hk1, _⟩ | ⟨c, hc, hv, hm, hkk⟩
        · exfalso
          rcases fr.2 with q | q
          · have q' : X.env.kindOf x = some .cell := q
            rw [hk1] at q'; cases q'
          · have q' : X.env.kindOf x = some .free := q
            rw [hk1] at q'; cases q'
        · refine ⟨c, ?_, ?_, hm, ?_⟩
          · show (cellsFrom (s.heap.objs.size + 1) scope.names [] ++ closL X.f.cells scope.names []).lookup x = some c
            rw [List.lookup_append]
            have e1 : (cellsFrom (s.heap.objs.size + 1) scope.names []).lookup x = none := by
              cases q : (cellsFrom (s.heap.objs.size + 1) scope.names []).lookup x with
              | none => rfl
              | some d =>
                have := lookup_nodup co.nodup (cellsFrom_mem _ _ _ _ (mem_of_lookup q))
                rw [hf] at this; cases this
            rw [e1]
            obtain ⟨d, hd'⟩ := Option.isSome_iff_exists.mp (closL_some (cells := X.f.cells) scope.names [] x (.inl hmf))
            have := hcl x d hd'
            rw [hc] at this; cases this
            simpa using hd'
          · obtain ⟨o, ho, hdt⟩ := hv
            exact ⟨o, kp c o ho, hdt⟩
          · have e := lookup_relabel (env := X.env) ok.kind hf
            have e' : (compCx X scope s.heap.objs.size).env.kindOf x = some (if NameKind.free = .free ∧ X.env.kindOf x = some .cell then .cell else .free) := e
            rcases hkk with q | ⟨q, q2⟩
            · left; rw [e', if_pos ⟨rfl, q⟩]
            · right
              refine ⟨?_, q2⟩
              rw [e', if_neg (fun z => by rw [q] at z; cases z.2)]
      · rw [if_neg hf] at hx'; cases hx'
  · intro b o e
    have := Heap.lt_size e
    exact ⟨Nat.ne_of_lt this, fun hm => absurd (aboveO b hm) (Nat.not_le.mpr (Nat.lt_succ_of_lt this))⟩
  · simp only [compCx, compFm, Cx.env, Fm.env]
    rw [cellsFrom_acc]
end

end Mine
end
section
open PySem PySem.W PyProof.Rows PySem.Calls
namespace Mine

def ATs (X : Cx) : List Expr → St → (Bool → St → Prop) → Prop
  | [], σ, Q => Q true σ
  | c :: r, σ, Q => AT X c σ (fun b σ1 => (b = true → ATs X r σ1 Q) ∧ (b = false → Q false σ1))

abbrev testsT (ifs : List Expr) (env : Env) : Sem Bool := forIn ifs true fun c r => if r = true then do let ok ← isTrue c env (eval c env); pure (ForInStep.yield ok) else pure (ForInStep.yield r)

/-- the turns of a comprehension's clause -/
def CLoop (X : Cx) (tg : Expr) (ifs : List Expr) (stay : St → Prop) (inner : St → (St → Prop) → Prop) : List Val → St → (St → Prop) → Prop
  | [], σ, K => K σ
  | V :: r, σ, K => AG X tg V σ (fun σ1 => ATs X ifs σ1 (fun b σ2 => (b = true → inner σ2 (fun σ3 => stay σ3 ∧ CLoop X tg ifs stay inner r σ3 K)) ∧ (b = false → stay σ2 ∧ CLoop X tg ifs stay inner r σ2 K)))

def emit (X : Cx) (D : Addr) (elt : Expr) (σ : St) (K : St → Prop) : Prop :=
  AE X elt σ (fun V σ' => ∃ vs, σ'.mem D = some (.list vs) ∧ vs.length < 16777216 ∧ K (σ'.put D (.list (vs ++ [V]))))

def turnT (ip : Pos) (tg : Expr) (ifs : List Expr) (inner : Sem Unit) (it : Value) (c : Code) (env : Env) : Sem Fin := do
  standAt ip
  match ← pyNext it with
  | none => pure (.done .next)
  | some v =>
    letOwnedTupleGo tg it v
    assign tg env v
    let ok ← testsT ifs env
    if ok then inner
    again c

structure ExtW (X : Cx) (W : Addr → Prop) (σ : St) (s : Shared) (σ' : St) (s' : Shared) : Prop where
  keep : ∀ b o, ¬ W b → s.heap.get? b = some o → σ.mem b = none → b ≠ X.f.L → b ∉ X.f.own → s'.heap.get? b = some o
  mem : ∀ b o, ¬ W b → s.heap.get? b = some o → σ.mem b = none → σ'.mem b = none
  live : ∀ b o, ¬ W b → s.heap.get? b = some o → ∃ o', s'.heap.get? b = some o'

section
variable {X : Cx} {σ σ' σ'' : St} {n : Nat} {pos : Pos} {s s' s'' : Shared} {W : Addr → Prop}

theorem ExtW.refl : ExtW X W σ s σ s := ⟨fun _ _ _ e _ _ _ => e, fun _ _ _ _ e => e, fun _ o _ e => ⟨o, e⟩⟩
theorem ExtW.step (x : ExtW X W σ s σ' s') (y : Ext X σ' s' σ'' s'') : ExtW X W σ s σ'' s'' :=
  ⟨fun b o w e m hL ho => y.keep b o (x.keep b o w e m hL ho) (x.mem b o w e m) hL ho, fun b o w e m => let ⟨o', e'⟩ := x.live b o w e; y.mem b o' e' (x.mem b o w e m), fun b o w e => let ⟨o', e'⟩ := x.live b o w e; y.live b o' e'⟩
theorem ExtW.walk (x : ExtW X W σ s σ' s') {h' : Heap} {tk : Nat} (hk : ∀ b o, ¬ W b → s'.heap.get? b = some o → h'.get? b = some o) : ExtW X W σ s σ' { s' with heap := h', toks := tk } :=
  ⟨fun b o w e m hL ho => hk b o w (x.keep b o w e m hL ho), x.mem, fun b o w e => let ⟨o', e'⟩ := x.live b o w e; ⟨o', hk b o' w e'⟩⟩

theorem ATs_run : ∀ {ifs : List Expr} {σ : St} {s : Shared} {Q : Bool → St → Prop}, ATs X ifs σ Q → Rep X σ s → Ta X (eqR (α := Bool)) (testsT ifs X.env) σ s Q
  | [], σ, s, Q, h, R => wpAny_pure ⟨true, σ, rfl, R, .refl, h⟩
  | c :: r, σ, s, Q, h, R => by
    unfold testsT
    rw [List.forIn_cons]
    simp only [if_true]
    refine wpAny_bind (wpAny_bind (wpAny_mono (h s R) ?_ fun _ _ e => e))
    rintro b s1 ⟨_, σ1, rfl, R1, x1, q⟩
    refine wpAny_pure ?_
    cases b with
    | true => exact (ATs_run (q.1 rfl) R1).then R1 x1
    | false =>
      have e : ∀ (l : List Expr), (forIn l false fun c r => if r = true then do let ok ← isTrue c X.env (eval c X.env); pure (ForInStep.yield ok) else pure (ForInStep.yield r) : Sem Bool) = pure false := by
        intro l
        induction l with
        | nil => rfl
        | cons a l ih => rw [List.forIn_cons]; simp only [Bool.false_eq_true, if_false, pure_bind]; exact ih
      show wpAny _ _ (forIn r false fun c r => if r = true then do let ok ← isTrue c X.env (eval c X.env); pure (ForInStep.yield ok) else pure (ForInStep.yield r) : Sem Bool) _ _ s1
      rw [e]
      exact wpAny_pure ⟨false, σ1, rfl, R1, x1, q.2 rfl⟩
end

section
variable {X : Cx} {σ σ' σ'' : St} {n : Nat} {pos : Pos} {s s' s'' : Shared} {W : Addr → Prop}

theorem CLoop_run {tg : Expr} {ifs : List Expr} {stay : St → Prop} {inner : St → (St → Prop) → Prop} {I : Addr} {S : Nat → St → Heap → Prop} {items : List Val} {c : Code} {ip : Pos} {t : Sem Unit} {K : St → Prop}
    (it : It X tg I W S items stay) (hq : c.quiet = true) (hA : X.A.under c = X.A) (hc : X.M.den c = (turnT ip tg ifs t (.ref I) c X.env).onRaise (fun x => do noteFrame x X.env; theTreesLotGoes x))
    (hin : ∀ σ s K, Rep X σ s → inner σ K → wpAny X.M X.A t (fun _ s' => ∃ σ', Rep X σ' s' ∧ Ext X σ s σ' s' ∧ K σ') (fun _ _ => False) s)
    (R : Rep X σ s) (hS : S 0 σ s.heap) (h : CLoop X tg ifs stay inner items σ K) :
    codeAny X.M X.A c (fun r s' => r = .ok .next ∧ ∃ σ', Rep X σ' s' ∧ ExtW X W σ s σ' s' ∧ K σ') s := by
  refine codeAny_loop hq (fun k s' => ∃ i σ', i ≤ items.length ∧ k = items.length + 1 - i ∧ Rep X σ' s' ∧ S i σ' s'.heap ∧ ExtW X W σ s σ' s' ∧ CLoop X tg ifs stay inner (items.drop i) σ' K) ?_ (items.length + 1)
    ⟨0, σ, Nat.zero_le _, rfl, R, hS, .refl, by simpa using h⟩
  rintro k s' ⟨i, σ', hi, rfl, R', hS', x', hF'⟩
  rw [hA, hc]
  refine wpAny_noted ?_
  refine wpAny_mono (E := fun _ _ => False) (Q := fun fin s' => match fin with
    | .done f => (.ok f : Result) = .ok .next ∧ ∃ σ', Rep X σ' s' ∧ ExtW X W σ s σ' s' ∧ K σ'
    | .again c' => c' = c ∧ ∃ m, m < (items.length + 1 - i) ∧ ∃ i σ', i ≤ items.length ∧ m = items.length + 1 - i ∧ Rep X σ' s' ∧ S i σ' s'.heap ∧ ExtW X W σ s σ' s' ∧ CLoop X tg ifs stay inner (items.drop i) σ' K) ?_ (fun _ _ q => q) (fun _ _ e => e.elim)
  unfold turnT
  refine wpAny_bind (wpAny_standAt (wpAny_bind ?_))
  by_cases hlt : i < items.length
  · have hV : items[i]? = some items[i] := List.getElem?_eq_getElem hlt
    rw [drop_cons_of_get hlt] at hF'
    refine wpAny_mono (it.turn i σ' s' _ R' hS' hV) ?_ fun _ _ e => e.elim
    rintro r s3 ⟨v, rfl, h3⟩
    refine wpAny_bind (wpAny_mono h3 ?_ fun _ _ e => e.elim)
    rintro _ s4 ⟨h', tk, rfl, R4, rv, hS4, hk4⟩
    have x4 := x'.walk (tk := tk) hk4
    refine wpAny_bind (wpAny_mono (hF' _ v R4 rv) ?_ fun _ _ e => e.elim)
    rintro _ s5 ⟨_, σ5, _, R5, x5, hb⟩
    refine wpAny_bind (wpAny_mono (ATs_run hb R5) ?_ fun _ _ e => e.elim)
    rintro b s6 ⟨_, σ6, rfl, R6, x6, hk⟩
    have x46 := x5.trans R5 x6
    cases b with
    | true =>
      simp only [if_true]
      refine wpAny_bind (wpAny_mono (hin _ _ _ R6 (hk.1 rfl)) ?_ fun _ _ e => e.elim)
      rintro _ s7 ⟨σ7, R7, x7, hs7, hl7⟩
      have x47 := x46.trans R6 x7
      exact wpAny_pure ⟨rfl, _, by (first | lia | omega), i + 1, σ7, hlt, rfl, R7, it.frame _ _ _ _ _ hS4 R4 x47 R7 hs7, x4.step x47, hl7⟩
    | false =>
      simp only [Bool.false_eq_true, if_false]
      have hk' := hk.2 rfl
      exact wpAny_pure ⟨rfl, _, by (first | lia | omega), i + 1, σ6, hlt, rfl, R6, it.frame _ _ _ _ _ hS4 R4 x46 R6 hk'.1, x4.step x46, hk'.2⟩
  · have hie : i = items.length := by (first | lia | omega)
    subst hie
    rw [List.drop_length] at hF'
    refine wpAny_mono (it.done σ' s' R' hS') ?_ fun _ _ e => e.elim
    rintro r s3 ⟨rfl, h', tk, rfl, R3, hk3⟩
    exact wpAny_pure ⟨rfl, σ', R3, x'.walk hk3, hF'⟩

/-- the element comes behind the others -/
theorem emit_run {D : Addr} {elt : Expr} {K : St → Prop} (R : Rep X σ s) (h : emit X D elt σ K) :
    wpAny X.M X.A (do let _ ← call (.builtin "list.append") [.ref D, ← eval elt X.env]) (fun _ s' => ∃ σ', Rep X σ' s' ∧ Ext X σ s σ' s' ∧ K σ') (fun _ _ => False) s := by
  refine wpAny_bind (wpAny_mono (h s R) ?_ fun _ _ e => e.elim)
  rintro v s2 ⟨V, σ2, rv, R2, x2, vs, hm2, hl, q⟩
  obtain ⟨items, k, e2, rvs⟩ := R2.isL hm2
  refine wpAny_bind (wpAny_list_append_plain (hsz := sz (by simp [rvs.length]; (first | lia | omega))) (l := D) (items := items.toArray) ⟨k, e2⟩ fun h' hpl hs' => wpAny_pure ?_)
  obtain ⟨k', el⟩ := hpl
  rw [show items.toArray.push v = (items ++ [v]).toArray from by simp] at el
  have kp : ∀ b o, b ≠ D → s2.heap.get? b = some o → h'.get? b = some o := fun b o q e => hs'.extBut b o q e
  have pm : ∀ b, σ2.mem b = none → b ≠ D := fun b m q => by rw [q, hm2] at m; cases m
  have g := R2.upd (t := s2.toks) (bx' := .list (vs ++ [V])) hm2 kp ⟨items ++ [v], _, el, (rvs.snoc rv).mono fun b o e m _ => ⟨kp b o (pm b m) e, by rw [St.put_mem, if_neg (pm b m)]; exact m⟩⟩
  exact ⟨_, g.1, x2.trans R2 g.2, q⟩
end

section
variable {X : Cx} {σ : St} {n : Nat} {pos : Pos}

/-- what the block of a comprehension leaves -/
def compDone (D : Addr) (σ2 : St) (Q : Val → St → Prop) (σ5 : St) : Prop :=
  (∃ vs, σ5.mem D = some (.list vs) ∧ Made (σ2.back σ5) vs Q) ∨ (∃ σ6 : St, (∀ a bx, σ6.mem a = some bx → σ5.mem a = some bx) ∧ σ6.loc = σ2.loc ∧ Q (.ref D) σ6)

theorem comp_leave {scope : Scope} {C D : Addr} {σ2 σ5 : St} {s s2 s5 : Shared} {h' : Heap} {W : Addr → Prop} {Q : Val → St → Prop} {h4 : Heap} {tk : Nat} (R2 : Rep X σ2 s2) (x2 : Ext X σ s σ2 s2) (hD : σ2.mem D = none) (hDn : s2.heap.get? D = none)
    (hnew : ∀ b o, s2.heap.get? b = some o → b ≠ C ∧ b ∉ (compCx X scope C).f.own) (kp4 : ∀ b o, s2.heap.get? b = some o → h4.get? b = some o)
    (hW : ∀ b, W b → s.heap.get? b = none ∧ b ≠ X.f.L ∧ b ∉ X.f.own ∧ ∃ o, s2.heap.get? b = some o ∧ ¬ isSeqObj o ∧ ∀ v, o.data ≠ .cell v)
    (R5 : Rep (compCx X scope C) σ5 s5) (x5 : ExtW (compCx X scope C) W ((σ2.put D (.list [])).comp scope) { s2 with heap := h4, toks := tk } σ5 s5)
    (hs : Heap.SameBut C s5.heap h') (hq : compDone D σ2 Q σ5) :
    ∃ V σ', RV h' σ'.mem (.ref D) V ∧ Rep X σ' { s5 with heap := h' } ∧ Ext X σ s σ' { s5 with heap := h' } ∧ σ'.mem C = none ∧ Q V σ' := by
  have CL : (compCx X scope C).f.L = C := rfl
  have nD : ∀ b o, s2.heap.get? b = some o → b ≠ D := fun b o e q => by rw [q, hDn] at e; cases e
  have m4 : ∀ b o, s2.heap.get? b = some o → σ2.mem b = none → ((σ2.put D (.list [])).comp scope).mem b = none := fun b o e m => by
    show (if b = D then _ else σ2.mem b) = none
    rw [if_neg (nD b o e)]; exact m
  have seqW : ∀ b o, s2.heap.get? b = some o → isSeqObj o → ¬ W b := fun b o e q w => by
    obtain ⟨_, _, _, o', e', nq, _⟩ := hW b w
    rw [e] at e'; cases e'; exact nq q
  obtain ⟨m, ⟨oL, es, ep, hL, rest⟩, qL, qc, ql⟩ := id R2.env
  have wL : ¬ W X.f.L := fun w => (hW _ w).2.1 rfl
  have go : ∀ σ6 : St, (∀ a bx, σ6.mem a = some bx → σ5.mem a = some bx) → σ6.loc = σ2.loc →
      Rep X σ6 { s5 with heap := h' } ∧ Ext X σ s σ6 { s5 with heap := h' } ∧ (∀ b o, s5.heap.get? b = some o → σ5.mem b = none → isSeqObj o → h'.get? b = some o ∧ σ6.mem b = none) ∧ σ6.mem C = none := by
    intro σ6 hm6 hl6
    have nn : ∀ b, σ5.mem b = none → σ6.mem b = none := fun b m => by
      cases e : σ6.mem b with
      | none => rfl
      | some bx => rw [hm6 b bx e] at m; cases m
    have nk : ∀ b ob, ¬ W b → s2.heap.get? b = some ob → σ2.mem b = none → h'.get? b = some ob ∧ σ6.mem b = none := fun b ob w e m => by
      have nb := hnew b ob e
      exact ⟨hs.extBut b ob nb.1 (x5.keep b ob w (kp4 b ob e) (m4 b ob e m) nb.1 nb.2), nn b (x5.mem b ob w (kp4 b ob e) (m4 b ob e m))⟩
    have k5 : ∀ b o, s5.heap.get? b = some o → σ5.mem b = none → isSeqObj o → h'.get? b = some o ∧ σ6.mem b = none := fun b o e m q =>
      ⟨hs.extBut b o (R5.locals_ne e (seq_no_dict q)) e, nn b m⟩
    refine ⟨?_, ?_, k5, nn C (let ⟨_, _, q, _⟩ := R5.env; q)⟩
    · refine ⟨fun b o e => ?_, R5.gens, R5.os, fun a bx e => ?_, ?_⟩
      · have e2 := R2.keep b o e
        exact hs.extBut b o (hnew b o e2).1 (R5.keep b o e)
      · have e' := hm6 a bx e
        have q := R5.mem a bx e'
        refine ⟨q.1, q.2.mono k5 fun o eo => hs.extBut a o (fun z => ?_) eo⟩
        obtain ⟨_, _, qC, _⟩ := R5.env
        rw [CL] at qC
        rw [z, qC] at e'; cases e'
      · have cw : ∀ c v, s2.heap.IsCell c v → ¬ W c := fun c v ⟨oc, e, d⟩ w => by
          obtain ⟨_, _, _, o', e', _, nq⟩ := hW c w
          rw [e] at e'; cases e'; exact nq _ d
        exact R2.env.mono (fun b ob e m q => nk b ob (seqW b ob e q) e m) (fun ob e => (nk _ ob wL e qL).1) (fun c v hc m => by
          have w := cw c v hc
          obtain ⟨ob, e, d⟩ := hc
          exact ⟨⟨ob, (nk c ob w e m).1, d⟩, (nk c ob w e m).2⟩) (nk _ _ wL hL qL).2 fun x V e => by rw [← hl6]; exact e
    · refine ⟨fun b ob e m hb ho => ?_, fun b ob e m => ?_, fun b ob e => ?_⟩
      · have w : ¬ W b := fun w => by rw [(hW b w).1] at e; cases e
        exact (nk b ob w (x2.keep b ob e m hb ho) (x2.mem b ob e m)).1
      · have w : ¬ W b := fun w => by rw [(hW b w).1] at e; cases e
        obtain ⟨o', e'⟩ := x2.live b ob e
        exact (nk b o' w e' (x2.mem b ob e m)).2
      · have w : ¬ W b := fun w => by rw [(hW b w).1] at e; cases e
        obtain ⟨o', e'⟩ := x2.live b ob e
        obtain ⟨o'', e''⟩ := x5.live b o' w (kp4 b o' e')
        exact ⟨o'', hs.extBut b o'' (hnew b o' e').1 e''⟩
  have hb : ∀ a bx, (σ2.back σ5).mem a = some bx → σ5.mem a = some bx := fun a bx e => by
    have : (if (σ2.mem a).isSome then σ5.mem a else none) = some bx := e
    split at this
    · exact this
    · cases this
  rcases hq with ⟨vs, hv, M⟩ | ⟨σ6, hm6, hl6, hq6⟩
  rotate_left
  · obtain ⟨r, x, k5, qC⟩ := go σ6 hm6 hl6
    exact ⟨_, _, .ref D, r, x, qC, hq6⟩
  obtain ⟨items, k, el, rvs⟩ := R5.isL hv
  have mD : (σ2.back σ5).mem D = none := by
    show (if (σ2.mem D).isSome then _ else none) = none
    rw [hD]; rfl
  have elD : IsL h' D items.toArray k := hs.extBut D _ (R5.locals_ne el (seq_no_dict ⟨_, _, rfl⟩)) el
  cases M with
  | frozen h =>
    obtain ⟨r, x, k5, qC⟩ := go _ hb rfl
    exact ⟨_, _, .lst elD mD (rvs.mono k5), r, x, qC, h⟩
  | tracked h =>
    obtain ⟨r, x, k5, qC⟩ := go ((σ2.back σ5).put D (.list vs)) (fun a bx e => by
      rw [St.put_mem] at e
      split at e
      · rename_i q; subst q; cases e; exact hv
      · exact hb a bx e) rfl
    exact ⟨_, _, .ref D, r, x, qC, h D mD⟩

/-- the walk of the block, one clause -/
theorem comp_block {scope : Scope} {tg iter elt : Expr} {ifs : List Expr} {cpos : Pos} {s s2 : Shared} {it : Value} {Q : Val → St → Prop} (ok : X.Ok n) (co : CompOk X scope) {RR : Value → Addr → Result → Shared → Prop}
    (h : Walking X tg σ s (fun items stay σ2 => ∀ C D, σ2.mem D = none → (compCx X scope C).Ok n → stay ((σ2.put D (.list [])).comp scope) ∧ CLoop (compCx X scope C) tg ifs stay (emit (compCx X scope C) D elt) items ((σ2.put D (.list [])).comp scope) (compDone D σ2 Q)) it s2)
    (hRR : ∀ D C s5, (∃ m, s5.heap.Ns C m) → (X.B.h₁.get? C = none ∧ C ≠ X.f.L ∧ C ∉ X.f.own ∧ s.heap.get? C = none) →
      (∀ h', Heap.SameBut C s5.heap h' → ∃ V σ', RV h' σ'.mem (.ref D) V ∧ Rep X σ' { s5 with heap := h' } ∧ Ext X σ s σ' { s5 with heap := h' } ∧ σ'.mem C = none ∧ Q V σ') → RR (.ref D) C (.ok .next) s5) :
    wpAny X.M X.A (newList []) (fun acc s₃ => wpAny X.M X.A (newFunctionEnv scope X.env.globals (closL X.f.cells scope.names []) [] X.env.qual none .none (some X.env)) (fun cenv s₄ =>
      codeAny X.M X.A (.compStart (.ListComp elt [⟨tg, iter, ifs, 0⟩] scope cpos) 0 it acc { cenv with scope := relabel scope X.env }) (RR acc cenv.locals) s₄) (fun _ _ => False) s₃) (fun _ _ => False) s2 := by
  obtain ⟨I, W, S, items, stay, σ2, rfl, hit, hS, R2, x2, hW, hst, hK⟩ := h
  refine wpAny_newObj_type ?_
  have fD := R2.fresh (heap_top_none s2.heap)
  have kp3 : ∀ b o, s2.heap.get? b = some o → (s2.heap.push { cls := .type "list", dict := none, data := .seq ([] : List Value).toArray }).get? b = some o := fun b o e => Heap.get?_push_of_some _ e
  have g := R2.new (t := s2.toks) (bx := .list []) (heap_top_none s2.heap) kp3 ⟨[], _, Heap.get?_push_size _ rfl, .nil⟩
  refine comp_enter ok co g.1 ?_
  intro C h4 eC kp4 okc R4 hnew cenv ecenv eL
  have hit' := hit (compCx X scope C) rfl rfl ⟨n, okc⟩ fun b w => by
    obtain ⟨_, _, _, o, e, _⟩ := hW b w
    exact hnew b o (kp3 b o e)
  rw [ecenv, eL]
  have kp : ∀ b o, s2.heap.get? b = some o → h4.get? b = some o := fun b o e => kp4 b o (kp3 b o e)
  obtain ⟨hst4, hK4⟩ := hK C s2.heap.objs.size fD.1 okc
  have g4 := g.1.grow (t := s2.toks) kp4
  have lc : ∀ x V, ((σ2.put s2.heap.objs.size (.list [])).comp scope).loc x = some V → (σ2.put s2.heap.objs.size (.list [])).loc x = some V := fun x V e => by
    have e' : (if scope.names.lookup x = some .free then (σ2.put s2.heap.objs.size (.list [])).loc x else none) = some V := e
    split at e'
    · exact e'
    · cases e'
  have R4' : Rep X ((σ2.put s2.heap.objs.size (.list [])).comp scope) { s2 with heap := h4, toks := s2.toks } := g4.1.less (fun _ _ e => e) lc
  have x4 : Ext X σ2 s2 ((σ2.put s2.heap.objs.size (.list [])).comp scope) { s2 with heap := h4, toks := s2.toks } := (g.2.trans g.1 g4.2).less fun _ _ e => e
  have hS4 : S 0 ((σ2.put s2.heap.objs.size (.list [])).comp scope) h4 := (hit X rfl rfl ⟨n, ok⟩ fun b w => ⟨(hW b w).2.1, (hW b w).2.2.1⟩).frame 0 σ2 s2 _ _ hS R2 x4 R4' hst4
  have loop : codeAny X.M X.A (.compLoop (.ListComp elt [⟨tg, iter, ifs, 0⟩] scope cpos) 0 (.ref I) (.ref s2.heap.objs.size) (compCx X scope C).env) (RR (.ref s2.heap.objs.size) C) { s2 with heap := h4, toks := s2.toks } := by
    refine codeAny_mono (CLoop_run (X := compCx X scope C) (ip := iter.pos) hit' rfl rfl rfl (fun σ s K R h => emit_run R h) R4 hS4 hK4) ?_
    rintro r s5 ⟨rfl, σ5, R5, x5, hq⟩
    have cn : s2.heap.get? C = none := by
      cases q : s2.heap.get? C with
      | none => rfl
      | some o => exact absurd rfl (hnew C o (kp3 C o q)).1
    refine hRR _ C s5 (let ⟨m, q, _⟩ := R5.env; ⟨m, q⟩) ⟨(R2.fresh cn).2, fun q => ?_, fun q => ?_, ?_⟩ fun h' hs' => ?_
    · obtain ⟨m, ⟨o, _, _, ho, _⟩, _⟩ := R2.env
      rw [← q, cn] at ho; cases ho
    · obtain ⟨m, _, _, hc, _⟩ := R2.env
      obtain ⟨_, v, o', ho', _⟩ := hc _ (.inl q)
      rw [cn] at ho'; cases ho'
    · cases q : s.heap.get? C with
      | none => rfl
      | some o =>
        obtain ⟨o', e'⟩ := x2.live C o q
        rw [cn] at e'; cases e'
    · exact comp_leave R2 x2 fD.1 (heap_top_none s2.heap) (fun b o e => hnew b o (kp3 b o e)) kp hW R5 x5 hs' hq
  exact codeAny_compStart_list loop (wpAny_mono (hit'.self 0 _ _ hS4) (fun v s' ⟨e1, e2⟩ => by subst e1; subst e2; exact loop) fun _ _ e => e.elim)

/-- what is asked of a comprehension of one clause -/
def CompK (X : Cx) (n : Nat) (tg : Expr) (ifs : List Expr) (elt : Expr) (scope : Scope) (Q : Val → St → Prop) (items : List Val) (stay : St → Prop) (σ2 : St) : Prop :=
  ∀ C D, σ2.mem D = none → (compCx X scope C).Ok n → stay ((σ2.put D (.list [])).comp scope) ∧ CLoop (compCx X scope C) tg ifs stay (emit (compCx X scope C) D elt) items ((σ2.put D (.list [])).comp scope) (compDone D σ2 Q)

theorem AE_comp (ok : X.Ok n) {scope : Scope} (co : CompOk X scope) {tg iter elt : Expr} {ifs : List Expr} {cpos : Pos} {Q : Val → St → Prop} (hs : ∀ x, foldedSetIterable iter X.env x = pure x)
    (h : AI X tg iter σ (CompK X n tg ifs elt scope Q)) : AE X (.ListComp elt [⟨tg, iter, ifs, 0⟩] scope cpos) σ Q := fun s R => by
  show wpAny _ _ (eval _ _) _ _ s
  rw [eval_ListComp]
  refine wpAny_comprehension_free (use := none) rfl hs (closureFor_eq fun x hx hf => (co.free x hx hf).1) co.kind (fun y hy hl => by rw [← hl]; exact lookup_nodup co.nodup hy) (wpAny_mono (h s R) (fun xv s₁ h₁ => wpAny_mono h₁ (fun it s₂ h₂ => ?_) fun _ _ e => e) fun _ _ e => e)
  refine comp_block (RR := fun acc C => compPost X.M X.A _ none _ acc C) ok co h₂ ?_
  intro D C s5 ns cf hh
  obtain ⟨m, hn⟩ := ns
  refine ⟨m, hn, fun h' hs' => ?_⟩
  obtain ⟨V, σ', rv, R', x', _, q⟩ := hh h' hs'
  exact ⟨V, σ', rv, R', x', q⟩

theorem AX_assign_comp (ok : X.Ok n) {scope : Scope} (co : CompOk X scope) {tg iter elt : Expr} {ifs : List Expr} {cpos : Pos} {y : Str} {py : Pos} {Q : Fl → St → Prop} (hs : ∀ x, foldedSetIterable iter X.env x = pure x)
    (hsw : swapsWith (.ListComp elt [⟨tg, iter, ifs, 0⟩] scope cpos) (some (.Name y py)) pos.line X.env = pure true) (hw : Writes X y)
    (h : AI X tg iter σ (CompK X n tg ifs elt scope (fun V σ' => Q .next (σ'.set y V)))) : AX X (.Assign [.Name y py] (.ListComp elt [⟨tg, iter, ifs, 0⟩] scope cpos) pos) σ Q := fun s R => by
  show wpAny _ _ (exec _ _) _ _ s
  rw [exec_Assign_Name_used _ _ _ _ hsw]
  refine wpAny_bind (wpAny_standAt (wpAny_bind ?_))
  show wpAny _ _ (do let _ ← comprehension (.ListComp elt [⟨tg, iter, ifs, 0⟩] scope cpos) scope X.env _ (newList []) false (eval iter X.env) (some (assign (.Name y py) X.env))) _ _ s
  refine wpAny_bind (wpAny_mono (wpAny_comprehension_free (use := some (assign (.Name y py) X.env)) (Q := fun _ s' => ∃ σ', Rep X σ' s' ∧ Ext X σ s σ' s' ∧ Q .next σ') rfl hs (closureFor_eq fun x hx hf => (co.free x hx hf).1) co.kind
    (fun y hy hl => by rw [← hl]; exact lookup_nodup co.nodup hy) (wpAny_mono (h s R) (fun xv s₁ h₁ => wpAny_mono h₁ (fun it s₂ h₂ => ?_) fun _ _ e => e) fun _ _ e => e)) (fun _ s' ⟨σ', R', x', q⟩ => wpAny_pure (wpAny_pure ⟨_, σ', .next, R', x', q⟩)) fun _ _ e => e)
  refine comp_block (RR := fun acc C => compPost X.M X.A _ (some (assign (.Name y py) X.env)) _ acc C) ok co h₂ ?_
  intro D C s5 ns cf hh
  obtain ⟨m, hn⟩ := ns
  obtain ⟨V, σ5, rv, R5, x5, mC, q⟩ := hh s5.heap ⟨rfl, fun _ _ => rfl⟩
  show wpAny _ _ (assign (.Name y py) X.env (.ref D)) _ _ s5
  refine wpAny_mono (AG_name (Q := fun σ' => (σ' = σ5.set y V)) ok hw rfl s5 _ R5 rv) ?_ fun _ _ e => e
  rintro _ s6 ⟨_, σ6, _, R6, x6, rfl⟩
  obtain ⟨oC, es, ep, hoC, hdC, hrest⟩ := id hn
  have kC := x6.keep C oC hoC mC cf.2.1 cf.2.2.1
  refine ⟨m, ⟨oC, es, ep, kC, hdC, hrest⟩, fun h' hs' => ?_⟩
  have kb : ∀ b o, ¬ (b = C) → s6.heap.get? b = some o → h'.get? b = some o := fun b o q e => hs'.extBut b o q e
  refine ⟨_, R6.touch (W := (· = C)) (t := s6.toks) kb ?_, ?_, q⟩
  · rintro b rfl
    refine ⟨cf.1, cf.2.1, x6.mem _ _ hoC mC, fun o e => ?_⟩
    rw [kC] at e; cases e
    refine ⟨fun z => seq_no_dict z _ _ hdC, fun v z => ?_⟩
    rw [hdC] at z; cases z
  · have x06 := x5.trans R5 x6
    exact ⟨fun b o e m hL ho => kb b o (fun z => by rw [z, cf.2.2.2] at e; cases e) (x06.keep b o e m hL ho), x06.mem, fun b o e => let ⟨o', e'⟩ := x06.live b o e; ⟨o', kb b o' (fun z => by rw [z, cf.2.2.2] at e; cases e) e'⟩⟩
end
end Mine
end
section
open PySem PySem.W PyProof.Rows PySem.Calls
namespace Mine

section
variable {X : Cx} {σ : St} {n : Nat} {pos p p' pos' : Pos}

/-- a clause whose turns leave the memory alone -/
theorem CompK_pure {scope : Scope} {tg elt : Expr} {ifs : List Expr} {Q : Val → St → Prop} {items : List Val} {stay : St → Prop} {σ2 : St} (pr : Val → Bool) (f : Val → Val) (hlen : items.length ≤ 16777216)
    (hst : ∀ σ', (∀ a bx, σ2.mem a = some bx → σ'.mem a = some bx) → stay σ')
    (hb : ∀ C σ' V, (compCx X scope C).Ok n → V ∈ items → (∀ a bx, σ2.mem a = some bx → σ'.mem a = some bx) → (∀ x, scope.names.lookup x = some .free → σ'.loc x = σ2.loc x) →
      AG (compCx X scope C) tg V σ' (fun σ1 => (σ1.mem = σ'.mem ∧ ∀ x, scope.names.lookup x = some .free → σ1.loc x = σ2.loc x) ∧ ATs (compCx X scope C) ifs σ1 (fun b σ3 => σ3 = σ1 ∧ b = pr V ∧ (b = true → AE (compCx X scope C) elt σ3 (fun U σ4 => σ4 = σ3 ∧ U = f V)))))
    (hq : Made σ2 ((items.filter pr).map f) Q) : CompK X n tg ifs elt scope Q items stay σ2 := by
  intro C D hD okc
  have pm : ∀ l a bx, σ2.mem a = some bx → (σ2.put D (.list l)).mem a = some bx := fun l a bx e => by
    rw [St.put_mem, if_neg (fun q => by rw [q, hD] at e; cases e)]; exact e
  refine ⟨hst _ (pm []), ?_⟩
  have go : ∀ (r : List Val) (acc : List Val) (σ' : St), (∀ V ∈ r, V ∈ items) → acc.length + r.length ≤ 16777216 → σ'.mem = (σ2.put D (.list acc)).mem → (∀ x, scope.names.lookup x = some .free → σ'.loc x = σ2.loc x) →
      Made σ2 (acc ++ (r.filter pr).map f) Q → CLoop (compCx X scope C) tg ifs stay (emit (compCx X scope C) D elt) r σ' (compDone D σ2 Q) := by
    intro r
    induction r with
    | nil =>
      intro acc σ' _ _ hm hl hq
      refine .inl ⟨acc, ?_, ?_⟩
      · rw [hm, St.put_mem, if_pos rfl]
      · have e : σ2.back σ' = σ2 := by
          cases σ2 with
          | mk mem loc =>
            simp only [St.back]
            congr 1
            funext a
            rw [hm]
            show (if (mem a).isSome = true then (if a = D then some (Box.list acc) else mem a) else none) = mem a
            cases ea : mem a with
            | none => rfl
            | some bx =>
              have : a ≠ D := fun q => by rw [q] at ea; exact absurd (hD.symm.trans ea) nofun
              simp [this]
        rw [e]
        simpa using hq
    | cons V r ih =>
      intro acc σ' hV hl hm hloc hq
      have hm' : ∀ a bx, σ2.mem a = some bx → σ'.mem a = some bx := fun a bx e => by rw [hm]; exact pm acc a bx e
      intro s v R rv
      refine (hb C σ' V okc (hV V (.head _)) hm' hloc s v R rv).mono ?_
      rintro _ σ1 ⟨⟨hm1, hl1⟩, ht⟩
      have mono : ∀ (ifs : List Expr) (σ1 : St) (P P' : Bool → St → Prop), (∀ b σ3, P b σ3 → P' b σ3) → ATs (compCx X scope C) ifs σ1 P → ATs (compCx X scope C) ifs σ1 P' := by
        intro ifs
        induction ifs with
        | nil => intro σ1 P P' h q; exact h _ _ q
        | cons c r ih => intro σ1 P P' h q; exact q.mono fun b σ3 z => ⟨fun e => ih σ3 P P' h (z.1 e), fun e => h _ _ (z.2 e)⟩
      refine mono _ _ _ _ ?_ ht
      rintro b σ3 ⟨rfl, rfl, he⟩
      have e1 : σ3.mem = (σ2.put D (.list acc)).mem := hm1.trans hm
      refine ⟨fun hb' => ?_, fun hb' => ?_⟩
      · refine T.mono (he hb') ?_
        rintro U σ4 ⟨rfl, rfl⟩
        refine ⟨acc, by rw [e1, St.put_mem, if_pos rfl], by simp at hl; (first | lia | omega), ?_⟩
        have e2 : (σ4.put D (.list (acc ++ [f V]))).mem = (σ2.put D (.list (acc ++ [f V]))).mem := by
          funext a
          show (if a = D then _ else σ4.mem a) = (if a = D then _ else σ2.mem a)
          rw [e1]
          show (if a = D then _ else (if a = D then _ else σ2.mem a)) = _
          by_cases q : a = D <;> simp [q]
        refine ⟨hst _ fun a bx e => by rw [e2]; exact pm _ a bx e, ih _ _ (fun W hW => hV W (.tail _ hW)) (by simp at hl ⊢; (first | lia | omega)) e2 hl1 ?_⟩
        rw [List.filter_cons, if_pos hb'] at hq
        simpa using hq
      · refine ⟨hst _ fun a bx e => by rw [e1]; exact pm _ a bx e, ih _ _ (fun W hW => hV W (.tail _ hW)) (by simp at hl ⊢; (first | lia | omega)) e1 hl1 ?_⟩
        rw [List.filter_cons, if_neg (by simp [hb'])] at hq
        exact hq
  exact go items [] _ (fun _ h => h) (by simpa using hlen) rfl (fun x hx => by show (if scope.names.lookup x = some .free then σ2.loc x else none) = _; rw [if_pos hx]) (by simpa using hq)

end
end Mine
end
section
open PySem PySem.W PyProof.Rows PySem.Calls
namespace Mine

/-! comprehensions of two clauses -/
section
variable {X : Cx} {σ : St} {n : Nat} {pos : Pos}

end

theorem AI.mono {X : Cx} {tg iter : Expr} {σ : St} {K K' : List Val → (St → Prop) → St → Prop} (h : AI X tg iter σ K) (hk : ∀ items stay σ1, K items stay σ1 → K' items stay σ1) : AI X tg iter σ K' := fun s R => by
  refine wpAny_mono (h s R) ?_ fun _ _ e => e
  intro x s1 h1
  refine wpAny_mono h1 ?_ fun _ _ e => e
  rintro it s2 ⟨I, W, S, items, stay, σ', e, hit, hS, R2, x2, hW, hst, hK⟩
  exact ⟨I, W, S, items, stay, σ', e, hit, hS, R2, x2, hW, hst, hk _ _ _ hK⟩
theorem AG.mono {X : Cx} {t : Expr} {V : Val} {σ : St} {Q Q' : St → Prop} (h : AG X t V σ Q) (hk : ∀ σ', Q σ' → Q' σ') : AG X t V σ Q' := fun s v R rv => (h s v R rv).mono fun _ σ' q => hk σ' q

section
variable {X : Cx} {σ : St} {n : Nat}
end
end Mine
end
section
open PySem PySem.W PyProof.Rows PySem.Calls
namespace Mine

section
variable {X : Cx} {σ σ' : St} {n : Nat} {s : Shared}

theorem Rep.refine (R : Rep X σ s) (hm : ∀ a bx, σ'.mem a = some bx → σ.mem a = some bx)
    (hl : ∀ x V', σ'.loc x = some V' → ∃ V, σ.loc x = some V ∧ ∀ v, RV s.heap σ.mem v V → RV s.heap σ'.mem v V') : Rep X σ' s := by
  have nn : ∀ b, σ.mem b = none → σ'.mem b = none := fun b m => by
    cases e : σ'.mem b with
    | none => rfl
    | some bx => rw [hm b bx e] at m; cases m
  refine ⟨R.keep, R.gens, R.os, fun a bx e => ⟨(R.mem a bx (hm a bx e)).1, (R.mem a bx (hm a bx e)).2.mono (fun b o e m _ => ⟨e, nn b m⟩) fun _ e => e⟩, ?_⟩
  obtain ⟨m, hn, hL, hc, hlo⟩ := R.env
  refine ⟨m, hn, nn _ hL, fun c hcc => ⟨nn _ (hc c hcc).1, (hc c hcc).2⟩, fun x V' hx => ?_⟩
  obtain ⟨V, hV, hr⟩ := hl x V' hx
  obtain ⟨hd, v, rv, hh⟩ := hlo x V hV
  refine ⟨hd, v, hr v rv, hh.imp id ?_⟩
  rintro ⟨c, e1, e2, e3, e4⟩
  exact ⟨c, e1, e2, nn _ e3, e4⟩

theorem AS_refine {ss : List Stmt} {Q : Fl → St → Prop} (hm : ∀ a bx, σ'.mem a = some bx → σ.mem a = some bx)
    (hl : ∀ s, Rep X σ s → ∀ x V', σ'.loc x = some V' → ∃ V, σ.loc x = some V ∧ ∀ v, RV s.heap σ.mem v V → RV s.heap σ'.mem v V') (h : AS X ss σ' Q) : AS X ss σ Q := fun s R => by
  have R' := R.refine hm (hl s R)
  have x : Ext X σ s σ' s := Ext.less .refl hm
  exact (h s R').then R' x

set_option maxRecDepth 100000 in
theorem mul_run {prog : Program} {w : World} {A : Around} {E : Value → Shared → Prop} {s : Shared} {l : Addr} {vs : List Value} {k : Nat} {u : Tok} {x : Int} {Q : Value → Shared → Prop} (hl : IsL s.heap l vs.toArray k) (hlo : -(2 ^ 63 : Int) ≤ x) (hhi : x < 2 ^ 63) (hsz : vs.length * x.toNat ≤ 256)
    (h : Q (.ref s.heap.objs.size) { s with heap := s.heap.push { cls := .type "list", data := .seq (List.replicate x.toNat vs).flatten.toArray } }) : wpAny (model prog w) A (binaryOp .Mult (.ref l) (.int x u)) Q E s := by
  have hsz' : vs.toArray.size * x.toNat ≤ 256 := by simpa using hsz
  refine wpAny_binaryOp_repeat_ref (T := "list") (U := "int") (by decide) ⟨_, hl, rfl⟩ (fun s' => typeIs_int s' x u) noFill_list_mul F.fills_int_mul F.slot_int_rmul repeat_list F.slot_int_index.lookup
    (call_meets F.slot_int_rmul (typeIs_int s x u) F.entry_int_rmul (F.args_int_rmul_2 _ _) (lm_int_rmul_list_any x u l vs.toArray k none #[])
      ⟨hl, rfl, ⟨_, hl, rfl⟩, call_meets F.slot_list_mul ⟨_, hl, rfl⟩ F.entry_list_mul (F.args_list_mul_2 _ _)
        (lm_list_mul_any l vs.toArray k none #[] x u (by simp [Builtin.List.listFitsIndex]; (first | lia | omega)) (by (first | lia | omega)) (by simp [Builtin.List.listTooLong, sizeLine]; (first | lia | omega)))
        ⟨hl, ?_⟩⟩)
  rw [listMul_foldl_if]
  exact h

theorem Op_mulList {V : Val} {vs : List Val} {k : Nat} {Q : Val → St → Prop} (hs : SeqOf σ V vs) (hk : vs.length * k ≤ 256) (hk2 : k ≤ 1000000) (h : Made σ (List.replicate k vs).flatten Q) : Op2 X .Mult V (.int k) σ Q := fun s va vb R ra rb => by
  obtain ⟨u, rfl⟩ := rb.int_inv
  obtain ⟨l, items, kk, rfl, e, rvs⟩ := hs.open R ra
  have rr : RVs s.heap σ.mem (List.replicate k items).flatten (List.replicate k vs).flatten := by
    clear h hk hk2 rb
    induction k with
    | zero => exact .nil
    | succ k ih => rw [List.replicate_succ, List.replicate_succ, List.flatten_cons, List.flatten_cons]; exact rvs.append ih
  refine mul_run e (by (first | lia | omega)) (by (first | lia | omega)) (by simpa [rvs.length] using hk) ?_
  rw [Int.toNat_natCast]
  exact h.take (t := s.toks) R (heap_top_none _) (fun b o e => Heap.get?_push_of_some _ e) (Heap.get?_push_size _ rfl) rr

end
end Mine
end
section
open PySem PySem.W PyProof.Rows PySem.Calls
namespace Mine

section
variable {X : Cx} {σ : St} {n : Nat} {pos apos : Pos}

end
end Mine
end
section
open PySem PySem.W PyProof.Rows PySem.Calls
namespace Mine

section
variable {X : Cx} {σ : St} {n : Nat} {pos tpos : Pos}

/-! dicts with int keys -/
end
end Mine
end
section
open PySem PySem.W PyProof.Rows PySem.Calls
namespace Mine

section
variable {X : Cx} {σ : St} {n : Nat} {pos : Pos} {Q : Val → St → Prop}
end

section
variable {prog : Program} {w : World} {A : Around} {E : Value → Shared → Prop} {s : Shared}
end

section
variable {prog : Program} {w : World} {A : Around} {R : Result → Shared → Prop} {I : Addr} {fp wr : List Addr} {n : Nat} {P : Nat → Value → Prop} {St : Nat → Heap → Prop}

end

section
variable {X : Cx} {σ : St} {n : Nat} {Q : Val → St → Prop}
end
end Mine
end
section
open PySem PySem.W PyProof.Rows PySem.Calls
namespace Mine

def noSt : St := ⟨fun _ => none, fun _ => none⟩

theorem FnAt_of_top {p : Program} {loose : List Str} {mean : ExcName → Option Value} {mg mb : Str → Option Value} {h : Heap} (T : Top p loose mean mg mb h) {prog : Program} {w : World} {os : OsState} {d : DefRec} (hd : d ∈ recsOf p) {params : List Str}
    (bind : ∀ pm code doc vals, vals.length = params.length → bindArgs (docDef d.name d.params d.body d.scope pm code doc) ⟨vals, []⟩ = pure (params.zip vals)) (nodup : params.Nodup)
    (kinds : ∀ x ∈ params, (x == ("__debug__" : Str)) = false ∧ (d.scope.names.lookup x = some .local ∨ (d.scope.names.lookup x = some .cell)))
    (cellNd : ((cellsFrom 0 d.scope.names []).map (·.1)).Nodup) (co : d.scope.isCoroutine = false) (gen : d.scope.isGenerator = false) (kind : d.scope.kind = .function) :
    ∃ fa fd o, FnAt ⟨prog, w, h, os, mg, mb⟩ d.name params d.body d.scope fa fd o := by
  obtain ⟨a, o, pm, code, doc, h1, h2, h3, h4⟩ := T.fn d hd
  exact ⟨a, _, o, ⟨h1, h2, h3, h4, rfl, rfl, rfl, rfl, rfl, bind pm code doc, nodup, kinds, cellNd, co, gen, kind⟩⟩
end Mine
end
section
open PySem PySem.W PyProof.Rows PySem.Calls
set_option maxRecDepth 100000
namespace Mine

def recAt (p : Program) (i : Nat) : DefRec := match p.main.body[i]? with
  | some (.FunctionDef name a b _ _ _ sc _ _ pos) => ⟨name, a, b, sc, pos⟩
  | _ => ⟨Str.ofString "", ⟨[], [], none, [], [], none, []⟩, [], ⟨.function, [], false, false, []⟩, ⟨0, 0, 0, 0⟩⟩

theorem loc_hit {σ : St} {x : Str} {V : Val} : (σ.set x V).loc x = some V := by rw [St.set_loc, if_pos rfl]
theorem loc_miss {σ : St} {x y : Str} {V : Val} {W : Option Val} (h : (y == x) = false) (e : σ.loc y = W) : (σ.set x V).loc y = W := by
  rw [St.set_loc, if_neg (by simpa using h)]; exact e
theorem loc_put {σ : St} {a : Addr} {b : Box} {y : Str} {W : Option Val} (e : σ.loc y = W) : (σ.put a b).loc y = W := e
theorem mem_hit {σ : St} {a : Addr} {b : Box} : (σ.put a b).mem a = some b := by rw [St.put_mem, if_pos rfl]
theorem mem_miss {σ : St} {a c : Addr} {b : Box} {o : Option Box} (h : c ≠ a) (e : σ.mem c = o) : (σ.put a b).mem c = o := by rw [St.put_mem, if_neg h]; exact e
theorem mem_set {σ : St} {x : Str} {V : Val} {c : Addr} {o : Option Box} (e : σ.mem c = o) : (σ.set x V).mem c = o := e

theorem back_put {σ σ' : St} {a : Addr} {bx : Box} (h : (σ.mem a).isSome = true) (e : σ'.mem a = some bx) (f : ∀ b, b ≠ a → (σ.mem b).isSome = true → σ'.mem b = σ.mem b) : σ.back σ' = σ.put a bx := by
  cases σ with
  | mk mem loc =>
    simp only [St.back, St.put]
    congr 1
    funext b
    by_cases q : b = a
    · subst q
      simp only at h
      simp [h, e]
    · rw [if_neg q]
      by_cases hb : (mem b).isSome = true
      · rw [if_pos hb]; exact f b q hb
      · rw [if_neg hb]
        cases hm : mem b with
        | none => rfl
        | some z => simp [hm] at hb
theorem back_same {σ σ' : St} (f : ∀ b, (σ.mem b).isSome = true → σ'.mem b = σ.mem b) : σ.back σ' = σ := by
  cases σ with
  | mk mem loc =>
    simp only [St.back]
    congr 1
    funext b
    by_cases hb : (mem b).isSome = true
    · rw [if_pos hb]; exact f b hb
    · rw [if_neg hb]
      cases hm : mem b with
      | none => rfl
      | some z => simp [hm] at hb

abbrev El := List Int
def tv (x : El) : Val := .tup (x.map Val.int)

def sdF (x : El) (s : Nat) : Nat → Nat → List El → List El
  | 0, p, l => l.set p x
  | k + 1, p, l => if s < p then (l[(p - 1) / 2]?).elim (l.set p x) fun y => if lexLt y x = true then sdF x s k ((p - 1) / 2) (l.set p y) else l.set p x else l.set p x
theorem half_le {k p : Nat} (h : p ≤ k + 1) : (p - 1) / 2 ≤ k := by (first | lia | omega)
theorem sdF_fuel {x : El} {s : Nat} : ∀ (k k' p : Nat) (l : List El), p ≤ k → p ≤ k' → sdF x s k p l = sdF x s k' p l
  | 0, 0, _, _, _, _ => rfl
  | 0, k' + 1, p, l, h, _ => (if_neg (Nat.le_zero.mp h ▸ Nat.not_lt_zero s)).symm
  | k + 1, 0, p, l, _, h => if_neg (Nat.le_zero.mp h ▸ Nat.not_lt_zero s)
  | k + 1, k' + 1, p, l, h, h' => by
    unfold sdF
    cases l[(p - 1) / 2]? with
    | none => rfl
    | some y => rw [Option.elim_some, Option.elim_some, sdF_fuel k k' _ _ (half_le h) (half_le h')]
def sd (x : El) (s : Nat) (p : Nat) (l : List El) : List El := sdF x s p p l
theorem sd_eq {x : El} {s p : Nat} {l : List El} (h : s < p) : sd x s p l = (l[(p - 1) / 2]?).elim (l.set p x) fun y => if lexLt y x = true then sd x s ((p - 1) / 2) (l.set p y) else l.set p x := by
  obtain ⟨k, rfl⟩ := Nat.exists_eq_succ_of_ne_zero (Nat.ne_of_gt (Nat.lt_of_le_of_lt (Nat.zero_le s) h))
  refine (if_pos h).trans ?_
  cases l[(k.succ - 1) / 2]? with
  | none => rfl
  | some y => rw [Option.elim_some, Option.elim_some, sdF_fuel k ((k.succ - 1) / 2) _ _ (half_le (Nat.le_refl _)) (Nat.le_refl _)]; rfl
theorem sd_stop {x : El} {s p : Nat} {l : List El} (h : ¬ s < p) : sd x s p l = l.set p x := by
  cases p with
  | zero => rfl
  | succ k => exact if_neg h
theorem sd_up {x y : El} {s p : Nat} {l : List El} (h : s < p) (hy : l[(p - 1) / 2]? = some y) (hl : lexLt y x = true) : sd x s p l = sd x s ((p - 1) / 2) (l.set p y) := by
  rw [sd_eq h, hy, Option.elim_some, if_pos hl]
theorem sd_end {x y : El} {s p : Nat} {l : List El} (h : s < p) (hy : l[(p - 1) / 2]? = some y) (hl : lexLt y x = false) : sd x s p l = l.set p x := by
  rw [sd_eq h, hy, Option.elim_some, if_neg (by rw [hl]; exact Bool.false_ne_true)]
theorem sd_length {x : El} {s : Nat} : ∀ (p : Nat) (l : List El), (sd x s p l).length = l.length := by
  intro p
  induction p using Nat.strongRecOn with
  | ind p ih =>
    intro l
    by_cases h : s < p
    · cases hy : l[(p - 1) / 2]? with
      | none => rw [sd_eq h, hy]; simp
      | some y =>
        cases hl : lexLt y x with
        | true => rw [sd_up h hy hl, ih _ (by (first | lia | omega))]; simp
        | false => rw [sd_end h hy hl]; simp
    · rw [sd_stop h]; simp

def suC (p : Nat) (l : List El) : Nat := if 2 * p + 2 < l.length ∧ lexLt (l.getD (2 * p + 2) []) (l.getD (2 * p + 1) []) = false then 2 * p + 2 else 2 * p + 1
theorem suC_lt {p : Nat} {l : List El} (h : 2 * p + 1 < l.length) : suC p l < l.length ∧ p < suC p l := by
  unfold suC; split <;> (first | lia | omega)
def suF : Nat → Nat → List El → List El × Nat
  | 0, p, l => (l, p)
  | k + 1, p, l => if 2 * p + 1 < l.length then suF k (suC p l) (l.set p (l.getD (suC p l) [])) else (l, p)
theorem fuel_le {n p q k : Nat} (h : n - p ≤ k + 1) (hp : p < q) : n - q ≤ k := by (first | lia | omega)
theorem suF_stop {p : Nat} {l : List El} (h : ¬ 2 * p + 1 < l.length) : ∀ k, suF k p l = (l, p)
  | 0 => rfl
  | _ + 1 => if_neg h
theorem suF_fuel : ∀ (k k' p : Nat) (l : List El), l.length - p ≤ k → l.length - p ≤ k' → suF k p l = suF k' p l
  | 0, k', p, l, h, _ => (suF_stop (by (first | lia | omega)) _).symm
  | k + 1, 0, p, l, _, h => suF_stop (by (first | lia | omega)) _
  | k + 1, k' + 1, p, l, h, h' => by
    unfold suF
    by_cases hp : 2 * p + 1 < l.length
    · have hc := suC_lt hp
      rw [if_pos hp, if_pos hp]
      exact suF_fuel k k' _ _ (by rw [List.length_set]; exact fuel_le h hc.2) (by rw [List.length_set]; exact fuel_le h' hc.2)
    · rw [if_neg hp, if_neg hp]
def su (_x : El) (p : Nat) (l : List El) : List El × Nat := suF l.length p l
theorem su_step {x : El} {p : Nat} {l : List El} (h : 2 * p + 1 < l.length) : su x p l = su x (suC p l) (l.set p (l.getD (suC p l) [])) := by
  have hc := suC_lt h
  unfold su
  rw [suF_fuel l.length (l.length + 1) p l (Nat.sub_le _ _) (Nat.le_succ_of_le (Nat.sub_le _ _)), List.length_set]
  exact if_pos h
theorem su_stop {x : El} {p : Nat} {l : List El} (h : ¬ 2 * p + 1 < l.length) : su x p l = (l, p) := suF_stop h _

theorem getD_of {l : List El} {i : Nat} {y : El} (h : l[i]? = some y) : l.getD i [] = y := by rw [List.getD_eq_getElem?_getD, h]; rfl

theorem Writes_fn {B : Base} {A : Around} {L : Addr} {qual : Str} {fa : Addr} {code : Value} {sc : Scope} {X : Cx} (hX : (⟨B, A, fnFm L qual fa code sc, sc⟩ : Cx) = X) {x : Str} (hd : (x == ("__debug__" : Str)) = false)
    (h : (sc.names.lookup x == some .local || sc.names.lookup x == some .cell) = true) : Writes X x := by
  subst hX
  refine ⟨hd, ?_⟩
  rcases Bool.or_eq_true_iff.mp h with q | q
  · have q' : sc.names.lookup x = some .local := by simpa using q
    exact .inl q'
  · have q' : sc.names.lookup x = some .cell := by simpa using q
    obtain ⟨c, hc⟩ := Option.isSome_iff_exists.mp (cellsFrom_some' (n := L + 1) q')
    exact .inr ⟨q', c, hc, List.mem_map.mpr ⟨(x, c), mem_of_lookup hc, rfl⟩⟩

theorem comp_kind {X : Cx} {n : Nat} (ok : X.Ok n) {scope : Scope} {C : Addr} {x : Str} {k : NameKind} (h : scope.names.lookup x = some k) (hk : k ≠ .free) : (compCx X scope C).env.kindOf x = some k := by
  have e := lookup_relabel (env := X.env) ok.kind h
  have e' : (compCx X scope C).env.kindOf x = some (if k = .free ∧ X.env.kindOf x = some .cell then .cell else k) := e
  rw [e', if_neg (fun q => hk q.1)]

theorem Writes_comp {X : Cx} {n : Nat} (ok : X.Ok n) {scope : Scope} {C : Addr} {x : Str} (hd : (x == ("__debug__" : Str)) = false) (h : scope.names.lookup x = some .local) : Writes (compCx X scope C) x :=
  ⟨hd, .inl (comp_kind ok h (by decide))⟩

theorem BName_fn {B : Base} {A : Around} {L : Addr} {qual : Str} {fa : Addr} {code : Value} {sc : Scope} {X : Cx} (hX : (⟨B, A, fnFm L qual fa code sc, sc⟩ : Cx) = X) {x : Str} {v : Value} (hg : B.mg x = none) (hd : (x == ("__debug__" : Str)) = false) (hn : (x == ("__name__" : Str)) = false)
    (h : sc.names.lookup x = some .globalImplicit) (hb : bootBuiltins x = some v) : BName X x v := by
  subst hX
  exact ⟨h, hd, hg, by simpa using hn, hb⟩
section
variable {X : Cx} {σ : St} {n : Nat} {pos : Pos} {Q : Val → St → Prop}
theorem AE_subN {v i : Expr} (hs : ∀ o x, subscripted i false o x = operate [o, x] (getItem o x))
    (h : AE X v σ (fun a σ1 => AE X i σ1 (fun b σ2 => ∃ (k : Nat) (vs : List Val) (V : Val), b = .int k ∧ SeqOf σ2 a vs ∧ k < 2 ^ 62 ∧ vs[k]? = some V ∧ Q V σ2))) : AE X (.Subscript v i pos) σ Q :=
  AE_sub hs (T.mono h fun _ _ h1 => T.mono h1 fun b σ2 ⟨k, vs, V, e, sq, hk, hv, q⟩ => ⟨k, V, e, .inl ⟨vs, sq, .inl ⟨by (first | lia | omega), by (first | lia | omega), by simpa using hv⟩⟩, q⟩)
theorem AG_itemN {o i : Expr} {V : Val} {Q : St → Prop}
    (h : AE X o σ (fun a σ1 => AE X i σ1 (fun b σ2 => ∃ (l : Addr) (vs : List Val) (k : Nat), a = .ref l ∧ b = .int k ∧ σ2.mem l = some (.list vs) ∧ k < vs.length ∧ vs.length < 2 ^ 62 ∧ Q (σ2.put l (.list (vs.set k V)))))) :
    AG X (.Subscript o i pos) V σ Q :=
  AG_item (T.mono h fun _ _ h1 => T.mono h1 fun b σ2 ⟨l, vs, k, ea, e, hm, hk, hl, q⟩ => ⟨l, vs, k, ea, e, hm, .inl ⟨by (first | lia | omega), by (first | lia | omega), by (first | lia | omega), by simpa using q⟩⟩)
end

theorem map_get {l : List El} {k : Nat} {x : El} (h : l[k]? = some x) : (l.map tv)[k]? = some (tv x) := by rw [List.getElem?_map, h]; rfl
theorem map_set {l : List El} {k : Nat} {x : El} : (l.map tv).set k (tv x) = (l.set k x).map tv := by rw [List.map_set]
theorem get_lt {l : List El} {k : Nat} {x : El} (h : l[k]? = some x) : k < l.length := (List.getElem?_eq_some_iff.mp h).1

/-- the loop of a sift-down, so far -/
structure SdI (a : Addr) (s : Nat) (x : El) (res : List El) (σ₀ : St) (p : Nat) (σ : St) : Prop where
  st : ∃ l : List El, σ.mem a = some (.list (l.map tv)) ∧ l.length = res.length ∧ p < l.length ∧ sd x s p l = res
  heap : σ.loc (Str.ofString "heap") = some (.ref a)
  start : σ.loc (Str.ofString "startpos") = some (.int s)
  new : σ.loc (Str.ofString "newitem") = some (tv x)
  pos : σ.loc (Str.ofString "pos") = some (.int p)
  frame : ∀ b, b ≠ a → σ.mem b = σ₀.mem b

/-- and where it stops -/
structure SdE (a : Addr) (x : El) (res : List El) (σ₀ : St) (fl : Fl) (σ : St) : Prop where
  fl : fl = .next
  st : ∃ (q : Nat) (l : List El), σ.mem a = some (.list (l.map tv)) ∧ q < l.length ∧ l.length = res.length ∧ l.set q x = res ∧ σ.loc (Str.ofString "pos") = some (.int q)
  heap : σ.loc (Str.ofString "heap") = some (.ref a)
  new : σ.loc (Str.ofString "newitem") = some (tv x)
  frame : ∀ b, b ≠ a → σ.mem b = σ₀.mem b

theorem su_ok {x : El} : ∀ (k p : Nat) (l : List El), l.length - p = k → p < l.length → (su x p l).1.length = l.length ∧ (su x p l).2 < l.length := by
  intro k
  induction k using Nat.strongRecOn with
  | ind k ih =>
    intro p l hk hp
    by_cases h : 2 * p + 1 < l.length
    · have hc := suC_lt h
      rw [su_step h]
      have := ih (l.length - suC p l) (by (first | lia | omega)) (suC p l) (l.set p (l.getD (suC p l) [])) (by simp) (by simpa using hc.1)
      simpa using this
    · rw [su_stop h]; exact ⟨rfl, hp⟩
def sup (x : El) (p : Nat) (l : List El) : List El := sd x p (su x p l).2 ((su x p l).1.set (su x p l).2 x)
/-- the loop of a sift-up, so far -/
structure SuI (a : Addr) (s : Nat) (x : El) (res : List El × Nat) (N : Nat) (σ₀ : St) (k : Nat) (σ : St) : Prop where
  st : ∃ (p : Nat) (l : List El), σ.mem a = some (.list (l.map tv)) ∧ l.length = N ∧ p < N ∧ k = N - p ∧ su x p l = res ∧ σ.loc (Str.ofString "pos") = some (.int p) ∧ σ.loc (Str.ofString "childpos") = some (.int (2 * p + 1 : Nat))
  heap : σ.loc (Str.ofString "heap") = some (.ref a)
  start : σ.loc (Str.ofString "startpos") = some (.int s)
  new : σ.loc (Str.ofString "newitem") = some (tv x)
  fin : σ.loc (Str.ofString "endpos") = some (.int N)
  frame : ∀ b, b ≠ a → σ.mem b = σ₀.mem b
structure SuE (a : Addr) (s : Nat) (x : El) (res : List El × Nat) (σ₀ : St) (fl : Fl) (σ : St) : Prop where
  fl : fl = .next
  st : σ.mem a = some (.list (res.1.map tv))
  pos : σ.loc (Str.ofString "pos") = some (.int res.2)
  heap : σ.loc (Str.ofString "heap") = some (.ref a)
  start : σ.loc (Str.ofString "startpos") = some (.int s)
  new : σ.loc (Str.ofString "newitem") = some (tv x)
  frame : ∀ b, b ≠ a → σ.mem b = σ₀.mem b
end Mine
end
section
namespace Mine

theorem lex_irrefl : ∀ x : El, lexLt x x = false
  | [] => rfl
  | a :: r => by simp [lexLt, lex_irrefl r]
theorem lex_trans : ∀ {x y z : El}, lexLt x y = true → lexLt y z = true → lexLt x z = true
  | [], [], _, h, _ => by simp [lexLt] at h
  | [], b :: y, [], _, h => by simp [lexLt] at h
  | [], b :: y, c :: z, _, _ => by simp [lexLt]
  | a :: x, [], _, h, _ => by simp [lexLt] at h
  | a :: x, b :: y, [], _, h => by simp [lexLt] at h
  | a :: x, b :: y, c :: z, h1, h2 => by
    simp only [lexLt] at h1 h2 ⊢
    have ih := @lex_trans x y z
    by_cases e1 : a = b <;> by_cases e2 : b = c
    · subst e1; subst e2; simp at h1 h2 ⊢; exact ih h1 h2
    · subst e1; simp [e2] at h1 h2 ⊢; exact h2
    · subst e2; simp [e1] at h1 h2 ⊢; exact h1
    · simp [e1, e2] at h1 h2
      have : a ≠ c := by (first | lia | omega)
      simp [this]; (first | lia | omega)
theorem lex_total : ∀ {x y : El}, lexLt x y = false → lexLt y x = false → x = y
  | [], [], _, _ => rfl
  | [], b :: y, h, _ => by simp [lexLt] at h
  | a :: x, [], _, h => by simp [lexLt] at h
  | a :: x, b :: y, h1, h2 => by
    simp only [lexLt] at h1 h2
    by_cases e : a = b
    · subst e; simp at h1 h2; rw [lex_total h1 h2]
    · have e' : b ≠ a := Ne.symm e
      simp [e, e'] at h1 h2; (first | lia | omega)
theorem lex_asymm {x y : El} (h : lexLt x y = true) : lexLt y x = false := by
  cases e : lexLt y x with
  | false => rfl
  | true => have := lex_trans h e; rw [lex_irrefl] at this; cases this
/-- y is no greater than x -/
def Ge (x y : El) : Prop := lexLt x y = false
theorem Ge.refl (x : El) : Ge x x := lex_irrefl x
theorem Ge.of_lt {x y : El} (h : lexLt y x = true) : Ge x y := lex_asymm h
theorem Ge.trans {x y z : El} (h : Ge x y) (h' : Ge y z) : Ge x z := by
  unfold Ge at *
  cases e : lexLt x z with
  | false => rfl
  | true =>
    cases e2 : lexLt z y with
    | true => rw [lex_trans e e2] at h; cases h
    | false =>
      have := lex_total h' e2
      subst this
      rw [h] at e; cases e

def g (l : List El) (i : Nat) : El := l.getD i []
theorem g_set {l : List El} {i j : Nat} {y : El} (hi : i < l.length) : g (l.set i y) j = if j = i then y else g l j := by
  unfold g
  rw [List.getD_eq_getElem?_getD, List.getD_eq_getElem?_getD, List.getElem?_set]
  by_cases h : i = j
  · subst h; simp [hi]
  · simp [h, Ne.symm h]
theorem g_of {l : List El} {i : Nat} {y : El} (h : l[i]? = some y) : g l i = y := getD_of h
theorem g_mem {l : List El} {i : Nat} (h : i < l.length) : g l i ∈ l := by
  unfold g; rw [List.getD_eq_getElem?_getD, List.getElem?_eq_getElem h]; exact List.getElem_mem h

/-- from place s on, none is greater than the one over it -/
def HF (l : List El) (s : Nat) : Prop := ∀ i, i < l.length → 1 ≤ i → s ≤ (i - 1) / 2 → Ge (g l ((i - 1) / 2)) (g l i)

inductive Sub (s : Nat) : Nat → Prop
  | root : Sub s s
  | left {q : Nat} : Sub s q → Sub s (2 * q + 1)
  | right {q : Nat} : Sub s q → Sub s (2 * q + 2)
theorem Sub.le {s p : Nat} (h : Sub s p) : s ≤ p := by
  induction h with
  | root => exact Nat.le_refl _
  | left _ ih => (first | lia | omega)
  | right _ ih => (first | lia | omega)
theorem Sub.up {s p : Nat} (h : Sub s p) (hn : p ≠ s) : Sub s ((p - 1) / 2) ∧ s ≤ (p - 1) / 2 ∧ 1 ≤ p := by
  cases h with
  | root => exact absurd rfl hn
  | left q => rename_i r; rw [show (2 * r + 1 - 1) / 2 = r from by (first | lia | omega)]; exact ⟨q, q.le, by (first | lia | omega)⟩
  | right q => rename_i r; rw [show (2 * r + 2 - 1) / 2 = r from by (first | lia | omega)]; exact ⟨q, q.le, by (first | lia | omega)⟩
theorem Sub.zero : ∀ p, Sub 0 p := by
  intro p
  induction p using Nat.strongRecOn with
  | ind p ih =>
    by_cases h : p = 0
    · subst h; exact .root
    · by_cases e : p % 2 = 1
      · have := Sub.left (ih (p / 2) (by (first | lia | omega)))
        rwa [show 2 * (p / 2) + 1 = p from by (first | lia | omega)] at this
      · have := Sub.right (ih (p / 2 - 1) (by (first | lia | omega)))
        rwa [show 2 * (p / 2 - 1) + 2 = p from by (first | lia | omega)] at this

theorem count_set' {l : List El} {i : Nat} (h : i < l.length) (y z : El) : (l.set i y).count z + (if g l i = z then 1 else 0) = l.count z + (if y = z then 1 else 0) := by
  have e := List.count_set (a := y) (b := z) (l := l) (i := i) h
  rw [e]
  have hg : l[i] = g l i := by unfold g; rw [List.getD_eq_getElem?_getD, List.getElem?_eq_getElem h]; rfl
  simp only [hg, beq_iff_eq]
  by_cases q : g l i = z
  · have : 0 < l.count z := List.count_pos_iff.mpr (q ▸ g_mem h)
    simp [q]; split <;> (first | lia | omega)
  · simp [q]

/-- the hole goes from p to c -/
theorem perm_move {l : List El} {p c : Nat} (x : El) (hp : p < l.length) (hc : c < l.length) (hn : p ≠ c) : ((l.set p (g l c)).set c x).Perm (l.set p x) := by
  rw [List.perm_iff_count]
  intro z
  have e1 := count_set' (l := l.set p (g l c)) (i := c) (by simpa using hc) x z
  have e2 := count_set' (l := l) (i := p) hp (g l c) z
  have e3 := count_set' (l := l) (i := p) hp x z
  rw [g_set hp, if_neg (Ne.symm hn)] at e1
  (first | lia | omega)

structure Up (l : List El) (s p : Nat) (x : El) : Prop where
  sub : Sub s p
  lt : p < l.length
  pairs : ∀ i, i < l.length → 1 ≤ i → s ≤ (i - 1) / 2 → i ≠ p → (i - 1) / 2 ≠ p → Ge (g l ((i - 1) / 2)) (g l i)
  kids : ∀ c, c < l.length → 1 ≤ c → (c - 1) / 2 = p → Ge x (g l c)
  grand : ∀ c, c < l.length → 1 ≤ c → (c - 1) / 2 = p → p ≠ s → Ge (g l ((p - 1) / 2)) (g l c)

theorem Up.fin {l : List El} {s p : Nat} {x : El} (u : Up l s p x) (h : p ≠ s → Ge (g l ((p - 1) / 2)) x) : HF (l.set p x) s := by
  intro i hi h1 hs
  rw [List.length_set] at hi
  rw [g_set u.lt, g_set u.lt]
  by_cases e1 : i = p
  · subst e1
    rw [if_pos rfl, if_neg (by (first | lia | omega))]
    refine h fun e => ?_
    subst e
    (first | lia | omega)
  · rw [if_neg e1]
    by_cases e2 : (i - 1) / 2 = p
    · rw [if_pos e2]; exact u.kids i hi h1 e2
    · rw [if_neg e2]; exact u.pairs i hi h1 hs e1 e2

theorem Up.step {l : List El} {s p : Nat} {x : El} (u : Up l s p x) (hn : p ≠ s) (hl : lexLt (g l ((p - 1) / 2)) x = true) : Up (l.set p (g l ((p - 1) / 2))) s ((p - 1) / 2) x := by
  obtain ⟨us, hs, h1⟩ := u.sub.up hn
  have hlt := u.lt
  have px : Ge x (g l ((p - 1) / 2)) := Ge.of_lt hl
  refine ⟨us, by rw [List.length_set]; (first | lia | omega), fun i hi hi1 hsi e1 e2 => ?_, fun c hc hc1 ec => ?_, fun c hc hc1 ec hns => ?_⟩
  · rw [List.length_set] at hi
    have e3 : i ≠ p := fun q => by subst q; exact e2 rfl
    rw [g_set u.lt, g_set u.lt, if_neg e3]
    by_cases e4 : (i - 1) / 2 = p
    · rw [if_pos e4]; exact u.grand i hi hi1 e4 hn
    · rw [if_neg e4]; exact u.pairs i hi hi1 hsi e3 e4
  · rw [List.length_set] at hc
    rw [g_set u.lt]
    by_cases e3 : c = p
    · rw [if_pos e3]; exact px
    · rw [if_neg e3]
      have := u.pairs c hc hc1 (by rw [ec]; exact hs) e3 (by rw [ec]; (first | lia | omega))
      rw [ec] at this
      exact px.trans this
  · rw [List.length_set] at hc
    obtain ⟨_, hs2, h2⟩ := us.up hns
    have pg := u.pairs ((p - 1) / 2) (by (first | lia | omega)) h2 hs2 (by (first | lia | omega)) (by (first | lia | omega))
    rw [g_set u.lt, g_set u.lt, if_neg (by (first | lia | omega))]
    by_cases e3 : c = p
    · rw [if_pos e3]; exact pg
    · rw [if_neg e3]
      have := u.pairs c hc hc1 (by rw [ec]; exact hs) e3 (by rw [ec]; (first | lia | omega))
      rw [ec] at this
      exact pg.trans this

theorem sd_spec {x : El} {s : Nat} : ∀ (p : Nat) (l : List El), Up l s p x → HF (sd x s p l) s ∧ (sd x s p l).Perm (l.set p x) := by
  intro p
  induction p using Nat.strongRecOn with
  | ind p ih =>
    intro l u
    by_cases h : s < p
    · have hlt := u.lt
      have hpar : (p - 1) / 2 < l.length := by (first | lia | omega)
      have hy : l[(p - 1) / 2]? = some (g l ((p - 1) / 2)) := by unfold g; rw [List.getD_eq_getElem?_getD, List.getElem?_eq_getElem hpar]; rfl
      cases hl : lexLt (g l ((p - 1) / 2)) x with
      | true =>
        rw [sd_up h hy hl]
        obtain ⟨a, b⟩ := ih ((p - 1) / 2) (by (first | lia | omega)) _ (u.step (by (first | lia | omega)) hl)
        exact ⟨a, b.trans (perm_move x hlt hpar (by (first | lia | omega)))⟩
      | false =>
        rw [sd_end h hy hl]
        exact ⟨u.fin fun _ => hl, .refl _⟩
    · rw [sd_stop h]
      refine ⟨u.fin fun hn => ?_, .refl _⟩
      have := u.sub.le
      (first | lia | omega)

structure Dn (l : List El) (s p : Nat) : Prop where
  sub : Sub s p
  lt : p < l.length
  pairs : ∀ i, i < l.length → 1 ≤ i → s ≤ (i - 1) / 2 → i ≠ p → (i - 1) / 2 ≠ p → Ge (g l ((i - 1) / 2)) (g l i)
  grand : ∀ c, c < l.length → 1 ≤ c → (c - 1) / 2 = p → p ≠ s → Ge (g l ((p - 1) / 2)) (g l c)

theorem suC_par {p : Nat} {l : List El} : (suC p l - 1) / 2 = p ∧ (suC p l = 2 * p + 1 ∨ suC p l = 2 * p + 2) := by
  unfold suC; split <;> (first | lia | omega)
theorem suC_max {p : Nat} {l : List El} (h : 2 * p + 1 < l.length) : ∀ c, c < l.length → 1 ≤ c → (c - 1) / 2 = p → Ge (g l (suC p l)) (g l c) := by
  intro c hc h1 e
  have ec : c = 2 * p + 1 ∨ c = 2 * p + 2 := by (first | lia | omega)
  unfold suC
  split
  · rename_i q
    rcases ec with rfl | rfl
    · exact q.2
    · exact Ge.refl _
  · rename_i q
    rcases ec with rfl | rfl
    · exact Ge.refl _
    · unfold Ge
      cases e2 : lexLt (g l (2 * p + 1)) (g l (2 * p + 2)) with
      | false => rfl
      | true => exact absurd ⟨hc, lex_asymm e2⟩ q

theorem Dn.step {l : List El} {s p : Nat} (u : Dn l s p) (h : 2 * p + 1 < l.length) : Dn (l.set p (g l (suC p l))) s (suC p l) := by
  have hc := suC_lt h
  obtain ⟨e1, e2⟩ := suC_par (p := p) (l := l)
  have hmax := suC_max h
  have hsp := u.sub.le
  have hpl := u.lt
  refine ⟨?_, by rw [List.length_set]; exact hc.1, fun i hi hi1 hsi n1 n2 => ?_, fun c hcl hc1 ec hns => ?_⟩
  · rcases e2 with e | e
    · rw [e]; exact .left u.sub
    · rw [e]; exact .right u.sub
  · rw [List.length_set] at hi
    rw [g_set u.lt, g_set u.lt]
    by_cases e3 : i = p
    · rw [if_pos e3, if_neg (by (first | lia | omega))]
      subst e3
      exact u.grand (suC i l) hc.1 (by (first | lia | omega)) e1 (by (first | lia | omega))
    · rw [if_neg e3]
      by_cases e4 : (i - 1) / 2 = p
      · rw [if_pos e4]; exact hmax i hi hi1 e4
      · rw [if_neg e4]; exact u.pairs i hi hi1 hsi e3 e4
  · rw [List.length_set] at hcl
    rw [g_set u.lt, g_set u.lt, e1, if_pos rfl, if_neg (by (first | lia | omega))]
    have := u.pairs c hcl hc1 (by (first | lia | omega)) (by (first | lia | omega)) (by (first | lia | omega))
    rw [ec] at this
    exact this

theorem su_spec {x : El} {s : Nat} : ∀ (k p : Nat) (l : List El), l.length - p = k → Dn l s p → Dn (su x p l).1 s (su x p l).2 ∧ ¬ 2 * (su x p l).2 + 1 < (su x p l).1.length ∧ ((su x p l).1.set (su x p l).2 x).Perm (l.set p x) := by
  intro k
  induction k using Nat.strongRecOn with
  | ind k ih =>
    intro p l hk u
    by_cases h : 2 * p + 1 < l.length
    · have hc := suC_lt h
      rw [su_step h]
      obtain ⟨a, b, c⟩ := ih (l.length - suC p l) (by (first | lia | omega)) (suC p l) (l.set p (l.getD (suC p l) [])) (by simp) (u.step h)
      exact ⟨a, b, c.trans (perm_move x u.lt hc.1 (by (first | lia | omega)))⟩
    · rw [su_stop h]; exact ⟨u, h, .refl _⟩

/-- a sift-up from s makes a heap from s on of a heap behind s -/
theorem sup_spec {x : El} {s : Nat} {l : List El} (hs : l[s]? = some x) (h : HF l (s + 1)) : HF (sup x s l) s ∧ (sup x s l).Perm l := by
  have hlt := get_lt hs
  have d : Dn l s s := ⟨.root, hlt, fun i hi h1 hsi n1 n2 => h i hi h1 (by (first | lia | omega)), fun c _ _ _ n => absurd rfl n⟩
  obtain ⟨u, hleaf, pm⟩ := su_spec (x := x) _ s l rfl d
  have ul : Up ((su x s l).1.set (su x s l).2 x) s (su x s l).2 x := by
    refine ⟨u.sub, by rw [List.length_set]; exact u.lt, fun i hi h1 hsi n1 n2 => ?_, fun c hc h1 e => ?_, fun c hc h1 e => ?_⟩
    · rw [List.length_set] at hi
      rw [g_set u.lt, g_set u.lt, if_neg n1, if_neg n2]
      exact u.pairs i hi h1 hsi n1 n2
    · rw [List.length_set] at hc; (first | lia | omega)
    · rw [List.length_set] at hc; (first | lia | omega)
  obtain ⟨a, b⟩ := sd_spec _ _ ul
  refine ⟨a, b.trans ?_⟩
  rw [List.set_set]
  refine pm.trans ?_
  rw [set_same hs]
where
  set_same {l : List El} {s : Nat} {x : El} (h : l[s]? = some x) : l.set s x = l := by
    apply List.ext_getElem?
    intro i
    rw [List.getElem?_set]
    split
    · rename_i e; subst e; rw [h]; simp [get_lt h]
    · rfl

theorem HF.top {l : List El} (h : HF l 0) : ∀ i, i < l.length → Ge (g l 0) (g l i) := by
  intro i
  induction i using Nat.strongRecOn with
  | ind i ih =>
    intro hi
    by_cases e : i = 0
    · subst e; exact Ge.refl _
    · exact (ih ((i - 1) / 2) (by (first | lia | omega)) (by (first | lia | omega))).trans (h i hi (by (first | lia | omega)) (Nat.zero_le _))
theorem HF.top_mem {l : List El} (h : HF l 0) {x : El} (hx : x ∈ l) : Ge (g l 0) x := by
  obtain ⟨i, hi, rfl⟩ := List.mem_iff_getElem.mp hx
  have := h.top i hi
  have e : g l i = l[i] := g_of (List.getElem?_eq_getElem hi)
  rw [e] at this
  exact this
/-- one more comes in at the end -/
theorem push_spec {x : El} {l : List El} (h : HF l 0) : HF (sd x 0 l.length (l ++ [x])) 0 ∧ (sd x 0 l.length (l ++ [x])).Perm (l ++ [x]) := by
  have ga : ∀ i, i < l.length → g (l ++ [x]) i = g l i := fun i hi => by
    unfold g; rw [List.getD_eq_getElem?_getD, List.getD_eq_getElem?_getD, List.getElem?_append_left hi]
  have u : Up (l ++ [x]) 0 l.length x := by
    refine ⟨.zero _, by simp, fun i hi h1 hs n1 n2 => ?_, fun c hc h1 e => ?_, fun c hc h1 e => ?_⟩
    · simp at hi
      rw [ga _ (by (first | lia | omega)), ga _ (by (first | lia | omega))]
      exact h i (by (first | lia | omega)) h1 (Nat.zero_le _)
    · simp at hc; (first | lia | omega)
    · simp at hc; (first | lia | omega)
  obtain ⟨a, b⟩ := sd_spec _ _ u
  refine ⟨a, b.trans ?_⟩
  rw [sup_spec.set_same (by simp)]
theorem pop_spec {l : List El} {y x : El} (h : HF (l ++ [y]) 0) (hx : l[0]? = some x) : HF (sup y 0 (l.set 0 y)) 0 ∧ (x :: sup y 0 (l.set 0 y)).Perm (l ++ [y]) := by
  have h0 := get_lt hx
  have ga : ∀ i, i < l.length → g (l ++ [y]) i = g l i := fun i hi => by
    unfold g; rw [List.getD_eq_getElem?_getD, List.getD_eq_getElem?_getD, List.getElem?_append_left hi]
  obtain ⟨a, b⟩ := sup_spec (x := y) (s := 0) (l := l.set 0 y) (by rw [List.getElem?_set_self h0]) (by
    intro i hi h1 hs
    rw [List.length_set] at hi
    rw [g_set h0, g_set h0, if_neg (by (first | lia | omega)), if_neg (by (first | lia | omega))]
    have := h i (by simp; (first | lia | omega)) h1 (Nat.zero_le _)
    rw [ga _ (by (first | lia | omega)), ga _ hi] at this
    exact this)
  refine ⟨a, (List.Perm.cons x b).trans ?_⟩
  cases l with
  | nil => simp at hx
  | cons z r =>
    simp at hx
    subst hx
    simp only [List.set_cons_zero, List.cons_append]
    exact List.Perm.cons _ (List.perm_append_singleton y r).symm

end Mine
end
section
open PySem PySem.W PyProof.Rows PySem.Calls
namespace Mine

theorem ForL_inv {X : Cx} {tg : Expr} {body : List Stmt} {stay : St → Prop} {Q : Fl → St → Prop} {items : List Val} (I : Nat → St → Prop)
    (turn : ∀ i σ V, items[i]? = some V → I i σ → AG X tg V σ (fun σ1 => AS X body σ1 (fun fl σ2 => (fl = .next ∨ fl = .cont) ∧ stay σ2 ∧ I (i + 1) σ2)))
    (fin : ∀ σ, I items.length σ → Q .next σ) {σ : St} (h : I 0 σ) : ForL X tg body stay Q items σ := by
  have go : ∀ (r : List Val) (i : Nat) (σ : St), items.drop i = r → i ≤ items.length → I i σ → ForL X tg body stay Q r σ := by
    intro r
    induction r with
    | nil =>
      intro i σ e hi hI
      have : i = items.length := by
        have := congrArg List.length e
        simp at this; (first | lia | omega)
      subst this
      exact fin σ hI
    | cons V r ih =>
      intro i σ e hi hI
      have hlt : i < items.length := by
        have := congrArg List.length e
        simp at this; (first | lia | omega)
      rw [List.drop_eq_getElem_cons hlt] at e
      injection e with e1 e2
      intro s v R rv
      refine (turn i σ V (by rw [List.getElem?_eq_getElem hlt, e1]) hI s v R rv).mono ?_
      intro _ σ1 h1
      refine T.mono h1 ?_
      rintro fl σ2 ⟨hf, hs, hI2⟩
      rcases hf with rfl | rfl
      · exact ⟨hs, ih (i + 1) σ2 e2 hlt hI2⟩
      · exact ⟨hs, ih (i + 1) σ2 e2 hlt hI2⟩
  exact go items 0 σ rfl (Nat.zero_le _) h

theorem SeqOf.put {σ : St} {V : Val} {vs : List Val} {D : Addr} {b : Box} (h : SeqOf σ V vs) (hD : σ.mem D = none) : SeqOf (σ.put D b) V vs := by
  rcases h with h | ⟨a, h, e⟩
  · exact .inl h
  · exact .inr ⟨a, h, by rw [St.put_mem, if_neg (fun q => by rw [q, hD] at e; cases e)]; exact e⟩
def Val.toInt : Val → Int
  | .int i => i
  | _ => 0
theorem CompOk_fn {B : Base} {A : Around} {L : Addr} {qual : Str} {fa : Addr} {code : Value} {sc : Scope} {X : Cx} (hX : (⟨B, A, fnFm L qual fa code sc, sc⟩ : Cx) = X) {scope : Scope} (hk : scope.kind = .function) (hn : (scope.names.map (·.1)).Nodup)
    (hf : (scope.names.all fun x => !(x.2 == .free) || sc.names.lookup x.1 == some .cell) = true) : CompOk X scope := by
  subst hX
  refine ⟨hk, hn, fun x hx e => ?_⟩
  have := List.all_eq_true.mp hf x hx
  rw [e] at this
  have q : sc.names.lookup x.1 = some .cell := by simpa using this
  exact ⟨cellsFrom_some' q, .inl q⟩

/-! the table of the most -/
end Mine
end
section
open PySem PySem.W PyProof.Rows PySem.Calls
set_option maxRecDepth 100000
namespace Mine
theorem pureInts (ns : List Int) : pureV 8 (.lst (ns.map Val.int)) := pureV_lst.mpr fun v hv => by
  obtain ⟨i, _, rfl⟩ := List.mem_map.mp hv
  exact pureV_int i
theorem pureT' {n : Nat} (x : El) : pureV (n + 1) (tv x) := pureV_tup.mpr fun v hv => by
  obtain ⟨i, _, rfl⟩ := List.mem_map.mp hv
  exact pureV_int i
theorem pureTs (l : List El) : pureV 8 (.lst (l.map tv)) := pureV_lst.mpr fun v hv => by
  obtain ⟨i, _, rfl⟩ := List.mem_map.mp hv
  exact pureT' i
theorem pureNil : pureV 8 (.lst []) := pureV_lst.mpr (by simp)
section
variable {X : Cx} {σ : St} {pos : Pos} {n : Nat}
theorem AX_ifd {t : Expr} {b o : List Stmt} {Q : Fl → St → Prop} (c : Prop) [Decidable c] (h : AT X t σ (fun b σ' => σ' = σ ∧ b = decide c)) (h1 : c → AS X b σ Q) (h2 : ¬ c → AS X o σ Q) : AX X (.If t b o pos) σ Q :=
  AX_if (T.mono h fun b σ' ⟨e, eb⟩ => by
    subst e eb
    exact ⟨fun z => h1 (of_decide_eq_true z), fun z => h2 (of_decide_eq_false z)⟩)
theorem AE_ifd {t b o : Expr} {Q : Val → St → Prop} (c : Prop) [Decidable c] (V : Val) (h : AT X t σ (fun b σ' => σ' = σ ∧ b = decide c)) (h1 : c → AE X b σ (fun U σ' => σ' = σ ∧ U = V)) (h2 : ¬ c → AE X o σ (fun U σ' => σ' = σ ∧ U = V)) (hq : Q V σ) : AE X (.IfExp t b o pos) σ Q :=
  AE_ifexp (T.mono h fun b σ' ⟨e, eb⟩ => by
    subst e eb
    exact ⟨fun z => T.mono (h1 (of_decide_eq_true z)) fun U σ' ⟨a, b⟩ => by subst a b; exact hq, fun z => T.mono (h2 (of_decide_eq_false z)) fun U σ' ⟨a, b⟩ => by subst a b; exact hq⟩)
theorem AS_freeze1 {ss : List Stmt} {Q : Fl → St → Prop} {x : Str} {T : Addr} {vs : List Val} (hx : σ.loc x = some (.ref T)) (hT : σ.mem T = some (.list vs)) (h : AS X ss ((σ.drop T).set x (.lst vs)) Q) : AS X ss σ Q := by
  have hm : ∀ a bx, ((σ.drop T).set x (.lst vs)).mem a = some bx → σ.mem a = some bx := fun a bx e => by
    rw [St.set_mem, St.drop_mem] at e
    split at e
    · cases e
    · exact e
  refine AS_refine hm ?_ h
  intro s R y V' hy
  rw [St.set_loc] at hy
  by_cases q : y = x
  · rw [if_pos q] at hy
    cases hy
    refine ⟨.ref T, q ▸ hx, fun v rv => ?_⟩
    cases rv
    exact R.frozen hT
  · rw [if_neg q] at hy
    refine ⟨V', hy, fun v rv => rv.mono fun b o e m _ => ⟨e, ?_⟩⟩
    rw [St.set_mem, St.drop_mem]
    split
    · rfl
    · exact m
end
theorem drop_other {σ : St} {x : Str} {T a : Addr} {V : Val} {bx : Option Box} (h : a ≠ T) (e : σ.mem a = bx) : ((σ.drop T).set x V).mem a = bx := by
  rw [St.set_mem, St.drop_mem, if_neg h]; exact e
theorem pop_plain {H : List El} (hf : HF H 0) (hne : H ≠ []) : ∃ l y, H = l ++ [y] ∧ (l = [] → (y ∈ H ∧ (∀ z ∈ H, Ge y z) ∧ [y].Perm H ∧ HF [] 0)) ∧ ∀ x, l[0]? = some x → x ∈ H ∧ (∀ z ∈ H, Ge x z) ∧ (x :: sup y 0 (l.set 0 y)).Perm H ∧ HF (sup y 0 (l.set 0 y)) 0 := by
  refine ⟨H.dropLast, H.getLast hne, (List.dropLast_concat_getLast hne).symm, fun e => ?_, fun x hx => ?_⟩
  · have eH : H = [H.getLast hne] := by
      have := List.dropLast_concat_getLast hne
      rw [e] at this; simpa using this.symm
    refine ⟨List.getLast_mem hne, fun z hz => ?_, by rw [← eH], fun i hi => by simp at hi⟩
    rw [eH] at hz
    have : z = H.getLast hne := by simpa using hz
    rw [this]; exact Ge.refl _
  · have e := (List.dropLast_concat_getLast hne)
    have hf' := hf
    rw [← e] at hf'
    obtain ⟨a, b⟩ := pop_spec hf' hx
    rw [e] at b
    have h0 : g H 0 = x := by
      have : H[0]? = some x := by rw [← e, List.getElem?_append_left (get_lt hx)]; exact hx
      exact g_of this
    exact ⟨b.mem_iff.mp (.head _), fun z hz => h0 ▸ HF.top_mem hf hz, b, a⟩
end Mine
end
section
open PySem PySem.W PyProof.Rows
set_option maxRecDepth 100000
namespace Mine
structure SOrd (κ : SortKind) (kf : Keyed → El) (S : Keyed → Prop) (prog : Program) (w : World) (A : Around) (s : Shared) : Prop where
  cmp : ∀ x y, S x → S y → ∀ {Q : Bool → Shared → Prop} {E : Value → Shared → Prop}, Q (lexLt (kf x) (kf y)) s → wpAny (model prog w) A (keyLt' κ x.1 y.1) Q E s

def gallopM : Bool → Keyed → Array Keyed → Nat → Nat → Nat → StateT SortSt Sem (Option Nat) := sortPriv% PySem.Builtin.gallop
def mergeLoM : Array Keyed → Array Keyed → StateT SortSt Sem (Array Keyed) := sortPriv% PySem.Builtin.mergeLo
def mergeHiM : Array Keyed → Array Keyed → StateT SortSt Sem (Array Keyed) := sortPriv% PySem.Builtin.mergeHi

section
variable {κ : SortKind} {kf : Keyed → El} {S : Keyed → Prop} {prog : Program} {w : World} {A : Around} {s : Shared} {E : Value → Shared → Prop}
theorem sort_lt (O : SOrd κ kf S prog w A s) {st : SortSt} {x y : Keyed} {Q : Option Bool → SortSt → Prop} (hk : kindOf st = κ) (hx : S x) (hy : S y) (h : Q (some (lexLt (kf x) (kf y))) st) : wpS (model prog w) A E s (lt' x y) Q st := by
  rw [lt'_eq]
  refine wpS_bind (wpS_get ?_)
  rw [hk]
  refine wpS_bind (wpS_lift (wpAny_attempt (O.cmp x y hx hy ⟨rfl, ?_⟩)))
  exact wpS_pure h
theorem sort_elem {st : SortSt} {arr : Array Keyed} {i : Nat} {x : Keyed} {Q : Keyed → SortSt → Prop} (hx : arr[i]? = some x) (h : Q x st) : wpS (model prog w) A E s (elem' arr i) Q st := by
  rw [elem'_eq, hx]; exact wpS_pure h

theorem sort_beyond (O : SOrd κ kf S prog w A s) {left : Bool} {key x : Keyed} {arr : Array Keyed} {j : Nat} {st : SortSt} {Q : Option Bool → SortSt → Prop} (hk : kindOf st = κ) (hx : arr[j]? = some x) (sx : S x) (hkey : S key)
    (h : Q (some (if left = true then lexLt (kf x) (kf key) else !lexLt (kf key) (kf x))) st) :
    wpS (model prog w) A E s (elem' arr j >>= fun x => if left = true then lt' x key else lt' key x >>= fun r => pure (r.map (!·))) Q st := by
  refine wpS_bind (sort_elem hx ?_)
  cases left with
  | true => exact sort_lt O hk sx hkey h
  | false => exact wpS_bind (sort_lt O hk hkey sx (wpS_pure h))

theorem bin_loop {n : Nat} {st : SortSt} {b : Nat → Bool} {f : Nat → Option (Option Nat) × Nat × Nat → StateT SortSt Sem (ForInStep (Option (Option Nat) × Nat × Nat))} {lo hi : Nat}
    (hf1 : ∀ x lo hi (Q' : ForInStep (Option (Option Nat) × Nat × Nat) → SortSt → Prop), lo ≥ hi → Q' (.done (none, lo, hi)) st → wpS (model prog w) A E s (f x (none, lo, hi)) Q' st)
    (hf2 : ∀ x lo hi (Q' : ForInStep (Option (Option Nat) × Nat × Nat) → SortSt → Prop), lo < hi → hi ≤ n → Q' (.yield (if b (lo + (hi - lo) / 2) = true then (none, lo + (hi - lo) / 2 + 1, hi) else (none, lo, lo + (hi - lo) / 2))) st → wpS (model prog w) A E s (f x (none, lo, hi)) Q' st)
    (mono : ∀ i j, i ≤ j → j < n → b j = true → b i = true) (hle : lo ≤ hi) (hhn : hi ≤ n) (hlo : ∀ i, i < lo → b i = true) (hhi : ∀ i, hi ≤ i → i < n → b i = false) :
    wpS (model prog w) A E s (forIn [:n] ((none, lo, hi) : Option (Option Nat) × Nat × Nat) f) (fun c st' => st' = st ∧ ∃ k, c = (none, k, k) ∧ k ≤ n ∧ (∀ i, i < k → b i = true) ∧ (∀ i, k ≤ i → i < n → b i = false)) st := by
  have monoF : ∀ i j, i ≤ j → j < n → b i = false → b j = false := fun i j hij hj e => by
    cases q : b j with
    | false => rfl
    | true => rw [mono i j hij hj q] at e; cases e
  refine wpS_forRange (I := fun x c st' => st' = st ∧ ∃ lo hi, c = (none, lo, hi) ∧ lo ≤ hi ∧ hi ≤ n ∧ hi - lo ≤ n - x ∧ (∀ i, i < lo → b i = true) ∧ (∀ i, hi ≤ i → i < n → b i = false)) ?_ ?_ ⟨rfl, lo, hi, rfl, hle, hhn, by (first | lia | omega), hlo, hhi⟩
  · rintro x c st' _ hxn ⟨rfl, lo, hi, rfl, h1, h2, h3, h4, h5⟩
    by_cases hge : lo ≥ hi
    · obtain rfl : lo = hi := by (first | lia | omega)
      exact hf1 x lo lo _ hge ⟨rfl, lo, rfl, h2, h4, h5⟩
    · refine hf2 x lo hi _ (by (first | lia | omega)) h2 ?_
      cases e : b (lo + (hi - lo) / 2) with
      | true => exact ⟨rfl, _, hi, rfl, by (first | lia | omega), h2, by (first | lia | omega), fun i hi' => mono i _ (by (first | lia | omega)) (by (first | lia | omega)) e, h5⟩
      | false => exact ⟨rfl, lo, _, rfl, by (first | lia | omega), by (first | lia | omega), by (first | lia | omega), h4, fun i hi' hn => monoF _ i hi' hn e⟩
  · rintro c st' ⟨rfl, lo, hi, rfl, h1, h2, h3, h4, h5⟩
    obtain rfl : lo = hi := by (first | lia | omega)
    exact ⟨rfl, lo, rfl, h2, h4, h5⟩

theorem sort_gallop (O : SOrd κ kf S prog w A s) {left : Bool} {key : Keyed} {arr : Array Keyed} {base n hint : Nat} {st : SortSt} {Q : Option Nat → SortSt → Prop} (hk : kindOf st = κ) (hS : ∀ i, i < n → ∃ x, arr[base + i]? = some x ∧ S x) (hkey : S key) (hh : hint < n)
    (b : Nat → Bool) (hb : ∀ i x, i < n → arr[base + i]? = some x → (if left = true then lexLt (kf x) (kf key) else !lexLt (kf key) (kf x)) = b i) (mono : ∀ i j, i ≤ j → j < n → b j = true → b i = true)
    (h : ∀ k, k ≤ n → (∀ i, i < k → b i = true) → (∀ i, k ≤ i → i < n → b i = false) → Q (some k) st) : wpS (model prog w) A E s (gallopM left key arr base n hint) Q st := by
  have monoF : ∀ i j, i ≤ j → j < n → b i = false → b j = false := fun i j hij hj e => by
    cases q : b j with
    | false => rfl
    | true => rw [mono i j hij hj q] at e; cases e
  obtain ⟨x, hx, sx⟩ := hS hint hh
  refine wpS_bind (sort_beyond O hk hx sx hkey ?_)
  rw [hb hint x hh hx]
  dsimp only
  clear x hx sx
  by_cases hr : b hint = true
  · rw [if_pos hr]
    refine wpS_bind (wpS_mono (wpS_forRange (I := fun x c st' => st' = st ∧ ∃ la of, c = (none, la, of) ∧ x + 1 ≤ of ∧ la < of ∧ hint + la < n ∧ b (hint + la) = true)
      (Q := fun c st' => st' = st ∧ ∃ la of, c = (none, la, of) ∧ la < of ∧ hint + la < n ∧ b (hint + la) = true ∧ (n - hint ≤ of ∨ (hint + of < n ∧ b (hint + of) = false))) ?_ ?_ ⟨rfl, 0, 1, rfl, by (first | lia | omega), by (first | lia | omega), by (first | lia | omega), hr⟩) ?_)
    · rintro x c st' _ hxn ⟨rfl, la, of, rfl, h1, h2, h3, h4⟩
      dsimp only
      by_cases hge : of ≥ n - hint
      · rw [if_pos hge]
        exact wpS_pure ⟨rfl, la, of, rfl, h2, h3, h4, .inl hge⟩
      · rw [if_neg hge]
        obtain ⟨x, hx, sx⟩ := hS (hint + of) (by (first | lia | omega))
        refine wpS_bind (sort_beyond O hk hx sx hkey ?_)
        rw [hb _ x (by (first | lia | omega)) hx]
        cases e : b (hint + of) with
        | true => exact wpS_pure ⟨rfl, of, 2 * of + 1, rfl, by (first | lia | omega), by (first | lia | omega), by (first | lia | omega), e⟩
        | false => exact wpS_pure ⟨rfl, la, of, rfl, h2, h3, h4, .inr ⟨by (first | lia | omega), e⟩⟩
    · rintro c st' ⟨rfl, la, of, rfl, h1, h2, h3, h4⟩
      exact ⟨rfl, la, of, rfl, h2, h3, h4, .inl (by (first | lia | omega))⟩
    · rintro c st' ⟨rfl, la, of, rfl, h2, h3, h4, h5⟩
      dsimp only
      have hlo : ∀ i, i < hint + la + 1 → b i = true := fun i hi => mono i (hint + la) (by (first | lia | omega)) h3 h4
      have hhi : ∀ i, hint + min of (n - hint) ≤ i → i < n → b i = false := fun i hi hn => by
        rcases h5 with z | ⟨z1, z2⟩
        · (first | lia | omega)
        · exact monoF (hint + of) i (by (first | lia | omega)) hn z2
      have hle : hint + la + 1 ≤ hint + min of (n - hint) := by (first | lia | omega)
      have hhn : hint + min of (n - hint) ≤ n := by (first | lia | omega)
      generalize hint + la + 1 = lo at hlo hle ⊢
      generalize hint + min of (n - hint) = hi at hhi hle hhn ⊢
      clear h5 h4 h3 h2
      refine wpS_bind (wpS_mono (bin_loop (b := b) (lo := lo) (hi := hi) ?_ ?_ mono hle hhn hlo hhi) ?_)
      · intro x lo hi Q' hge hq
        dsimp only
        rw [if_pos hge]
        exact wpS_pure hq
      · intro x lo hi Q' hlt hn hq
        dsimp only
        rw [if_neg (by (first | lia | omega))]
        obtain ⟨x, hx, sx⟩ := hS (lo + (hi - lo) / 2) (by (first | lia | omega))
        refine wpS_bind (sort_beyond O hk hx sx hkey ?_)
        rw [hb _ x (by (first | lia | omega)) hx]
        cases e : b (lo + (hi - lo) / 2) with
        | true => rw [e] at hq; exact wpS_pure hq
        | false => rw [e] at hq; exact wpS_pure hq
      · rintro c st' ⟨rfl, k, rfl, k1, k2, k3⟩
        exact wpS_pure (h k k1 k2 k3)
  · rw [if_neg hr]
    have hr' : b hint = false := by simpa using hr
    refine wpS_bind (wpS_mono (wpS_forRange (I := fun x c st' => st' = st ∧ ∃ la of, c = (none, la, of) ∧ x + 1 ≤ of ∧ la < of ∧ la ≤ hint ∧ b (hint - la) = false)
      (Q := fun c st' => st' = st ∧ ∃ la of, c = (none, la, of) ∧ la < of ∧ la ≤ hint ∧ b (hint - la) = false ∧ (hint + 1 ≤ of ∨ (of ≤ hint ∧ b (hint - of) = true))) ?_ ?_ ⟨rfl, 0, 1, rfl, by (first | lia | omega), by (first | lia | omega), by (first | lia | omega), hr'⟩) ?_)
    · rintro x c st' _ hxn ⟨rfl, la, of, rfl, h1, h2, h3, h4⟩
      dsimp only
      by_cases hge : of ≥ hint + 1
      · rw [if_pos hge]
        exact wpS_pure ⟨rfl, la, of, rfl, h2, h3, h4, .inl hge⟩
      · rw [if_neg hge]
        obtain ⟨x, hx, sx⟩ := hS (hint - of) (by (first | lia | omega))
        refine wpS_bind (sort_beyond O hk hx sx hkey ?_)
        rw [hb _ x (by (first | lia | omega)) hx]
        cases e : b (hint - of) with
        | false => exact wpS_pure ⟨rfl, of, 2 * of + 1, rfl, by (first | lia | omega), by (first | lia | omega), by (first | lia | omega), e⟩
        | true => exact wpS_pure ⟨rfl, la, of, rfl, h2, h3, h4, .inr ⟨by (first | lia | omega), e⟩⟩
    · rintro c st' ⟨rfl, la, of, rfl, h1, h2, h3, h4⟩
      exact ⟨rfl, la, of, rfl, h2, h3, h4, .inl (by (first | lia | omega))⟩
    · rintro c st' ⟨rfl, la, of, rfl, h2, h3, h4, h5⟩
      dsimp only
      have hlo : ∀ i, i < hint + 1 - min of (hint + 1) → b i = true := fun i hi => by
        rcases h5 with z | ⟨z1, z2⟩
        · (first | lia | omega)
        · exact mono i (hint - of) (by (first | lia | omega)) (by (first | lia | omega)) z2
      have hhi : ∀ i, hint - la ≤ i → i < n → b i = false := fun i hi hn => monoF (hint - la) i hi hn h4
      have hle : hint + 1 - min of (hint + 1) ≤ hint - la := by (first | lia | omega)
      have hhn : hint - la ≤ n := by (first | lia | omega)
      generalize hint + 1 - min of (hint + 1) = lo at hlo hle ⊢
      generalize hint - la = hi at hhi hle hhn ⊢
      refine wpS_bind (wpS_mono (bin_loop (b := b) (lo := lo) (hi := hi) ?_ ?_ mono hle hhn hlo hhi) ?_)
      · intro x lo hi Q' hge hq
        dsimp only
        rw [if_pos hge]
        exact wpS_pure hq
      · intro x lo hi Q' hlt hn hq
        dsimp only
        rw [if_neg (by (first | lia | omega))]
        obtain ⟨x, hx, sx⟩ := hS (lo + (hi - lo) / 2) (by (first | lia | omega))
        refine wpS_bind (sort_beyond O hk hx sx hkey ?_)
        rw [hb _ x (by (first | lia | omega)) hx]
        cases e : b (lo + (hi - lo) / 2) with
        | true => rw [e] at hq; exact wpS_pure hq
        | false => rw [e] at hq; exact wpS_pure hq
      · rintro c st' ⟨rfl, k, rfl, k1, k2, k3⟩
        exact wpS_pure (h k k1 k2 k3)
end
end Mine
end
section
open PySem PySem.W PyProof.Rows
set_option maxRecDepth 100000
namespace Mine
/-! plain: what a merge keeps -/
section
variable (kf : Keyed → El)
def KLe (x y : Keyed) : Prop := lexLt (kf y) (kf x) = false
structure LInv (la lb o : List Keyed) (ia ib : Nat) : Prop where
  perm : (o ++ (la.drop ia ++ lb.drop ib)).Perm (la ++ lb)
  srt : o.Pairwise (KLe kf)
  lea : ∀ x ∈ o, ∀ y ∈ la.drop ia, KLe kf x y
  leb : ∀ x ∈ o, ∀ y ∈ lb.drop ib, KLe kf x y
  sz : o.length = ia + ib
def MGood (la lb r : List Keyed) : Prop := r.Perm (la ++ lb) ∧ r.Pairwise (KLe kf)
end
section
variable {kf : Keyed → El} {la lb o c : List Keyed} {ia ib : Nat}
theorem KLe.refl (x : Keyed) : KLe kf x x := lex_irrefl _
theorem KLe.trans {x y z : Keyed} (h : KLe kf x y) (h' : KLe kf y z) : KLe kf x z := Ge.trans (x := kf z) (y := kf y) (z := kf x) h' h
theorem KLe.of_lt {x y : Keyed} (h : lexLt (kf x) (kf y) = true) : KLe kf x y := lex_asymm h
theorem srt_at {l : List Keyed} (h : l.Pairwise (KLe kf)) {i j : Nat} {x y : Keyed} (hij : i ≤ j) (hx : l[i]? = some x) (hy : l[j]? = some y) : KLe kf x y := by
  obtain ⟨h1, rfl⟩ := List.getElem?_eq_some_iff.mp hx
  obtain ⟨h2, rfl⟩ := List.getElem?_eq_some_iff.mp hy
  rcases Nat.lt_or_eq_of_le hij with q | q
  · exact List.pairwise_iff_getElem.mp h i j h1 h2 q
  · subst q; exact KLe.refl _
theorem mem_drop_iff {l : List Keyed} {m : Nat} {x : Keyed} : x ∈ l.drop m ↔ ∃ i, m ≤ i ∧ l[i]? = some x := by
  rw [List.mem_iff_getElem?]
  constructor
  · rintro ⟨i, hi⟩
    rw [List.getElem?_drop] at hi
    exact ⟨m + i, by (first | lia | omega), hi⟩
  · rintro ⟨i, hi, hx⟩
    refine ⟨i - m, ?_⟩
    rw [List.getElem?_drop, show m + (i - m) = i by (first | lia | omega)]
    exact hx
theorem LInv.moveA (v : LInv kf la lb o ia ib) (ha : la.Pairwise (KLe kf)) {ia' : Nat} (e : la.drop ia = c ++ la.drop ia') (hc : c.length + ia = ia') (h : ∀ x ∈ c, ∀ y ∈ lb.drop ib, KLe kf x y) : LInv kf la lb (o ++ c) ia' ib := by
  have hd : (c ++ la.drop ia').Pairwise (KLe kf) := e ▸ ha.sublist (List.drop_sublist _ _)
  obtain ⟨p1, p2, p3⟩ := List.pairwise_append.mp hd
  refine ⟨?_, List.pairwise_append.mpr ⟨v.srt, p1, fun x hx y hy => v.lea x hx y (e ▸ List.mem_append.mpr (.inl hy))⟩, fun x hx y hy => ?_, fun x hx y hy => ?_, ?_⟩
  · have := v.perm
    rw [e] at this
    rw [List.append_assoc, ← List.append_assoc c]
    exact this
  · rcases List.mem_append.mp hx with z | z
    · exact v.lea x z y (e ▸ List.mem_append.mpr (.inr hy))
    · exact p3 x z y hy
  · rcases List.mem_append.mp hx with z | z
    · exact v.leb x z y hy
    · exact h x z y hy
  · rw [List.length_append, v.sz]; (first | lia | omega)
theorem LInv.moveB (v : LInv kf la lb o ia ib) (hb : lb.Pairwise (KLe kf)) {ib' : Nat} (e : lb.drop ib = c ++ lb.drop ib') (hc : c.length + ib = ib') (h : ∀ x ∈ c, ∀ y ∈ la.drop ia, KLe kf x y) : LInv kf la lb (o ++ c) ia ib' := by
  have hd : (c ++ lb.drop ib').Pairwise (KLe kf) := e ▸ hb.sublist (List.drop_sublist _ _)
  obtain ⟨p1, p2, p3⟩ := List.pairwise_append.mp hd
  refine ⟨?_, List.pairwise_append.mpr ⟨v.srt, p1, fun x hx y hy => v.leb x hx y (e ▸ List.mem_append.mpr (.inl hy))⟩, fun x hx y hy => ?_, fun x hx y hy => ?_, ?_⟩
  · have := v.perm
    rw [e] at this
    rw [List.append_assoc]
    refine List.Perm.trans ?_ this
    refine List.Perm.append_left o ?_
    rw [← List.append_assoc, ← List.append_assoc]
    exact List.perm_append_comm.append_right _
  · rcases List.mem_append.mp hx with z | z
    · exact v.lea x z y hy
    · exact h x z y hy
  · rcases List.mem_append.mp hx with z | z
    · exact v.leb x z y (e ▸ List.mem_append.mpr (.inr hy))
    · exact p3 x z y hy
  · rw [List.length_append, v.sz]; (first | lia | omega)
theorem LInv.pushA (v : LInv kf la lb o ia ib) (ha : la.Pairwise (KLe kf)) {x : Keyed} (hx : la[ia]? = some x) (h : ∀ y ∈ lb.drop ib, KLe kf x y) : LInv kf la lb (o ++ [x]) (ia + 1) ib := by
  obtain ⟨h1, rfl⟩ := List.getElem?_eq_some_iff.mp hx
  refine v.moveA ha (c := [la[ia]]) (List.drop_eq_getElem_cons h1) (by simp; (first | lia | omega)) fun z hz => ?_
  simp at hz; subst hz; exact h
theorem LInv.pushB (v : LInv kf la lb o ia ib) (hb : lb.Pairwise (KLe kf)) {x : Keyed} (hx : lb[ib]? = some x) (h : ∀ y ∈ la.drop ia, KLe kf x y) : LInv kf la lb (o ++ [x]) ia (ib + 1) := by
  obtain ⟨h1, rfl⟩ := List.getElem?_eq_some_iff.mp hx
  refine v.moveB hb (c := [lb[ib]]) (List.drop_eq_getElem_cons h1) (by simp; (first | lia | omega)) fun z hz => ?_
  simp at hz; subst hz; exact h
theorem LInv.done (v : LInv kf la lb o ia ib) (ha : la.Pairwise (KLe kf)) (hb : lb.Pairwise (KLe kf)) (h : la.length ≤ ia ∨ lb.length ≤ ib) : MGood kf la lb (o ++ la.drop ia ++ lb.drop ib) := by
  refine ⟨by rw [List.append_assoc]; exact v.perm, ?_⟩
  rw [List.append_assoc, List.pairwise_append]
  refine ⟨v.srt, ?_, fun x hx y hy => ?_⟩
  · rcases h with h | h
    · rw [List.drop_eq_nil_of_le h, List.nil_append]; exact hb.sublist (List.drop_sublist _ _)
    · rw [List.drop_eq_nil_of_le h, List.append_nil]; exact ha.sublist (List.drop_sublist _ _)
  · rcases List.mem_append.mp hy with z | z
    · exact v.lea x hx y z
    · exact v.leb x hx y z
theorem LInv.last (v : LInv kf la lb o ia ib) (ha : la.Pairwise (KLe kf)) (hb : lb.Pairwise (KLe kf)) (h : ∀ y ∈ lb.drop ib, ∀ x ∈ la.drop ia, KLe kf y x) : MGood kf la lb (o ++ lb.drop ib ++ la.drop ia) := by
  refine ⟨?_, ?_⟩
  · rw [List.append_assoc]
    exact (List.Perm.append_left o List.perm_append_comm).trans v.perm
  · rw [List.append_assoc, List.pairwise_append]
    refine ⟨v.srt, List.pairwise_append.mpr ⟨hb.sublist (List.drop_sublist _ _), ha.sublist (List.drop_sublist _ _), h⟩, fun x hx y hy => ?_⟩
    rcases List.mem_append.mp hy with z | z
    · exact v.leb x hx y z
    · exact v.lea x hx y z
end
theorem toList_ext (a : Array Keyed) (i : Nat) : (a.extract i).toList = a.toList.drop i := by
  simp only [Array.toList_extract, List.extract_eq_take_drop]
  exact List.take_of_length_le (by simp)
theorem toList_ext2 (a : Array Keyed) (i k : Nat) : (a.extract i (i + k)).toList = (a.toList.drop i).take k := by simp
theorem arr_get (a : Array Keyed) (i : Nat) : a[i]? = a.toList[i]? := by simp
end Mine
end
section
open PySem PySem.W PyProof.Rows
set_option maxRecDepth 100000
namespace Mine
structure SameSt (st st' : SortSt) : Prop where
  kind : kindOf st' = kindOf st
  arr : arrOf st' = arrOf st
  pend : pendingOf st' = pendingOf st
  failed : failedOf st' = failedOf st
theorem SameSt.refl (st : SortSt) : SameSt st st := ⟨rfl, rfl, rfl, rfl⟩
section
variable {κ : SortKind} {kf : Keyed → El} {S : Keyed → Prop} {prog : Program} {w : World} {A : Around} {s : Shared} {E : Value → Shared → Prop}
theorem wpS_ite {α : Type} {c : Prop} [Decidable c] {t e : StateT SortSt Sem α} {st : SortSt} {Q : α → SortSt → Prop} (h1 : c → wpS (model prog w) A E s t Q st) (h2 : ¬ c → wpS (model prog w) A E s e Q st) : wpS (model prog w) A E s (if c then t else e) Q st := by
  by_cases h : c
  · rw [if_pos h]; exact h1 h
  · rw [if_neg h]; exact h2 h
theorem wpS_ift {α : Type} {c : Prop} [Decidable c] {t e : StateT SortSt Sem α} {st : SortSt} {Q : α → SortSt → Prop} (h : c) (h1 : wpS (model prog w) A E s t Q st) : wpS (model prog w) A E s (if c then t else e) Q st := wpS_ite (fun _ => h1) fun n => absurd h n
theorem wpS_iff {α : Type} {c : Prop} [Decidable c] {t e : StateT SortSt Sem α} {st : SortSt} {Q : α → SortSt → Prop} (h : ¬ c) (h1 : wpS (model prog w) A E s e Q st) : wpS (model prog w) A E s (if c then t else e) Q st := wpS_ite (fun n => absurd n h) fun _ => h1
theorem wpS_ifeq {α : Type} {i j : Nat} {t e : StateT SortSt Sem α} {st : SortSt} {Q : α → SortSt → Prop} (h1 : i = j → wpS (model prog w) A E s t Q st) (h2 : i ≠ j → wpS (model prog w) A E s e Q st) : wpS (model prog w) A E s (if (i == j) = true then t else e) Q st :=
  wpS_ite (fun h => h1 (beq_iff_eq.mp h)) fun h => h2 fun q => h (beq_iff_eq.mpr q)
theorem get_at {l : Array Keyed} (hS : ∀ x ∈ l.toList, S x) {i : Nat} (hi : i < l.size) {P : Prop} (k : ∀ x, l[i]? = some x → l.toList[i]? = some x → S x → P) : P := by
  have e : l.toList[i]? = some l[i] := by simp [hi]
  exact k l[i] (by rw [arr_get]; exact e) e (hS _ (List.mem_of_getElem? e))
theorem sort_lt2 {α : Type} (O : SOrd κ kf S prog w A s) {st : SortSt} {x y : Keyed} {f : Option Bool → StateT SortSt Sem α} {Q : α → SortSt → Prop} (hk : kindOf st = κ) (hx : S x) (hy : S y) (h1 : lexLt (kf x) (kf y) = true → wpS (model prog w) A E s (f (some true)) Q st) (h2 : lexLt (kf x) (kf y) = false → wpS (model prog w) A E s (f (some false)) Q st) : wpS (model prog w) A E s (lt' x y >>= f) Q st := by
  refine wpS_bind (sort_lt O hk hx hy ?_)
  cases e : lexLt (kf x) (kf y) with
  | true => exact h1 e
  | false => exact h2 e

/-- galloping in a sorted array, told of lists: to the right of like ones -/
theorem gallopR (O : SOrd κ kf S prog w A s) {key : Keyed} {arr : Array Keyed} {base n hint : Nat} {st : SortSt} {Q : Option Nat → SortSt → Prop} (hk : kindOf st = κ) (hs : arr.toList.Pairwise (KLe kf)) (hS : ∀ x ∈ arr.toList, S x) (hkey : S key) (hn : base + n ≤ arr.size) (hh : hint < n)
    (h : ∀ k, k ≤ n → (∀ i x, base ≤ i → i < base + k → arr.toList[i]? = some x → KLe kf x key) → (∀ i x, base + k ≤ i → i < base + n → arr.toList[i]? = some x → lexLt (kf key) (kf x) = true) → Q (some k) st) :
    wpS (model prog w) A E s (gallopM false key arr base n hint) Q st := by
  have get : ∀ i, i < n → ∃ x, arr.toList[base + i]? = some x := fun i hi => ⟨_, List.getElem?_eq_getElem (by simp; (first | lia | omega))⟩
  refine sort_gallop O hk (fun i hi => ?_) hkey hh (fun i => !lexLt (kf key) (kf ((arr.toList[base + i]?).getD key))) (fun i x hi hx => ?_) (fun i j hij hj hb => ?_) (fun k hkn h1 h2 => ?_)
  · obtain ⟨x, hx⟩ := get i hi
    exact ⟨x, by rw [arr_get]; exact hx, hS x (List.mem_of_getElem? hx)⟩
  · rw [arr_get] at hx
    simp only [hx, Option.getD_some]; rfl
  · obtain ⟨x, hx⟩ := get i (by (first | lia | omega))
    obtain ⟨y, hy⟩ := get j hj
    simp only [hx, hy, Option.getD_some, Bool.not_eq_true'] at hb ⊢
    exact KLe.trans (kf := kf) (srt_at hs (by (first | lia | omega)) hx hy) hb
  · refine h k hkn (fun i x hi1 hi2 hx => ?_) (fun i x hi1 hi2 hx => ?_)
    · have := h1 (i - base) (by (first | lia | omega))
      rw [show base + (i - base) = i by (first | lia | omega), hx] at this
      simpa [KLe] using this
    · have := h2 (i - base) (by (first | lia | omega)) (by (first | lia | omega))
      rw [show base + (i - base) = i by (first | lia | omega), hx] at this
      simpa using this
/-- and to the left -/
theorem gallopL (O : SOrd κ kf S prog w A s) {key : Keyed} {arr : Array Keyed} {base n hint : Nat} {st : SortSt} {Q : Option Nat → SortSt → Prop} (hk : kindOf st = κ) (hs : arr.toList.Pairwise (KLe kf)) (hS : ∀ x ∈ arr.toList, S x) (hkey : S key) (hn : base + n ≤ arr.size) (hh : hint < n)
    (h : ∀ k, k ≤ n → (∀ i x, base ≤ i → i < base + k → arr.toList[i]? = some x → lexLt (kf x) (kf key) = true) → (∀ i x, base + k ≤ i → i < base + n → arr.toList[i]? = some x → KLe kf key x) → Q (some k) st) :
    wpS (model prog w) A E s (gallopM true key arr base n hint) Q st := by
  have get : ∀ i, i < n → ∃ x, arr.toList[base + i]? = some x := fun i hi => ⟨_, List.getElem?_eq_getElem (by simp; (first | lia | omega))⟩
  refine sort_gallop O hk (fun i hi => ?_) hkey hh (fun i => lexLt (kf ((arr.toList[base + i]?).getD key)) (kf key)) (fun i x hi hx => ?_) (fun i j hij hj hb => ?_) (fun k hkn h1 h2 => ?_)
  · obtain ⟨x, hx⟩ := get i hi
    exact ⟨x, by rw [arr_get]; exact hx, hS x (List.mem_of_getElem? hx)⟩
  · rw [arr_get] at hx
    simp only [hx, Option.getD_some]; rfl
  · obtain ⟨x, hx⟩ := get i (by (first | lia | omega))
    obtain ⟨y, hy⟩ := get j hj
    simp only [hx, hy, Option.getD_some] at hb ⊢
    have hxy := srt_at hs (by (first | lia | omega)) hx hy
    cases e : lexLt (kf x) (kf key) with
    | true => rfl
    | false =>
      have : lexLt (kf y) (kf key) = false := KLe.trans (kf := kf) (x := key) (y := x) (z := y) e hxy
      rw [this] at hb; cases hb
  · refine h k hkn (fun i x hi1 hi2 hx => ?_) (fun i x hi1 hi2 hx => ?_)
    · have := h1 (i - base) (by (first | lia | omega))
      rw [show base + (i - base) = i by (first | lia | omega), hx] at this
      simpa using this
    · have := h2 (i - base) (by (first | lia | omega)) (by (first | lia | omega))
      rw [show base + (i - base) = i by (first | lia | omega), hx] at this
      simpa [KLe] using this

def setGM : Nat → StateT SortSt Sem Unit := sortPriv% PySem.Builtin.setMinGallop
theorem sort_setG {st st3 : SortSt} {g : Nat} {Q : Unit → SortSt → Prop} (hst : SameSt st st3) (h : ∀ st4, SameSt st st4 → Q () st4) : wpS (model prog w) A E s (setGM g) Q st3 := by
  refine wpS_modify ?_
  exact h _ ⟨hst.kind, hst.arr, hst.pend, hst.failed⟩

theorem two_of {x y n : Nat} (h : x + 1 + (y + 1) ≤ n) : x + 2 ≤ n := by (first | lia | omega)
theorem drop_lt {i j n : Nat} (h : i ≤ n) (hj : j < n) : j < i + (n - i) := by (first | lia | omega)
theorem add_cut {i k n : Nat} (h : i ≤ n) (hk : k ≤ n - i) : i + k ≤ n := by (first | lia | omega)
theorem drop_cut (l : List Keyed) (i k : Nat) : l.drop i = (l.drop i).take k ++ l.drop (i + k) := by
  rw [← List.drop_drop]; exact (List.take_append_drop k _).symm
theorem len_cut {l : List Keyed} {i k : Nat} (h : k ≤ l.length - i) : ((l.drop i).take k).length + i = i + k := by
  rw [List.length_take, List.length_drop, Nat.min_eq_left h, Nat.add_comm]
theorem mem_cut {l : List Keyed} {i k : Nat} {x : Keyed} : x ∈ (l.drop i).take k ↔ ∃ j, j < k ∧ l[i + j]? = some x := by
  rw [List.mem_iff_getElem?]
  constructor
  · rintro ⟨j, hj⟩
    rw [List.getElem?_take] at hj
    split at hj
    · rw [List.getElem?_drop] at hj
      exact ⟨j, by assumption, hj⟩
    · cases hj
  · rintro ⟨j, hj, hx⟩
    exact ⟨j, by rw [List.getElem?_take, if_pos hj, List.getElem?_drop]; exact hx⟩
structure LI {γ : Type} (kf : Keyed → El) (a b : Array Keyed) (st : SortSt) (B : Nat → Nat → Prop) (c : Option (Array Keyed) × Array Keyed × Nat × Nat × γ) (st' : SortSt) : Prop where
  same : SameSt st st'
  non : c.1 = none
  v : LInv kf a.toList b.toList c.2.1.toList c.2.2.1 c.2.2.2.1
  h1 : c.2.2.1 + 1 < a.size
  h2 : c.2.2.2.1 < b.size
  h3 : B c.2.2.1 c.2.2.2.1
def LQ {γ : Type} (kf : Keyed → El) (a b : Array Keyed) (st : SortSt) (B : Nat → Nat → Prop) (c : Option (Array Keyed) × Array Keyed × Nat × Nat × γ) (st' : SortSt) : Prop := match c.1 with
  | some r => SameSt st st' ∧ MGood kf a.toList b.toList r.toList
  | none => LI kf a b st B c st'
section
variable {γ : Type} {a b : Array Keyed} {st st' : SortSt} {B : Nat → Nat → Prop}
theorem LI.go {ia ib : Nat} {out : Array Keyed} {g : γ} (hst : SameSt st st') (v : LInv kf a.toList b.toList out.toList ia ib) (h1 : ia + 1 < a.size) (h2 : ib < b.size) (h3 : B ia ib) : LI kf a b st B (none, out, ia, ib, g) st' := ⟨hst, rfl, v, h1, h2, h3⟩
theorem LQ.go {ia ib : Nat} {out : Array Keyed} {g : γ} (hst : SameSt st st') (v : LInv kf a.toList b.toList out.toList ia ib) (h1 : ia + 1 < a.size) (h2 : ib < b.size) (h3 : B ia ib) : LQ kf a b st B (none, out, ia, ib, g) st' := LI.go hst v h1 h2 h3
theorem LQ.fin {r : Array Keyed} {c : Array Keyed × Nat × Nat × γ} (hst : SameSt st st') (h : MGood kf a.toList b.toList r.toList) : LQ kf a b st B (some r, c) st' := ⟨hst, h⟩
theorem LI.toQ {B' : Nat → Nat → Prop} {c : Option (Array Keyed) × Array Keyed × Nat × Nat × γ} (hc : LI kf a b st B c st') (hB : ∀ ia ib, ia + 1 < a.size → ib < b.size → B ia ib → B' ia ib) : LQ kf a b st B' c st' := by
  obtain ⟨c0, out, ia, ib, g⟩ := c
  cases hc.non
  exact LQ.go hc.same hc.v hc.h1 hc.h2 (hB _ _ hc.h1 hc.h2 hc.h3)
def LS (kf : Keyed → El) (a b : Array Keyed) (st : SortSt) (B : Nat → Nat → Prop) (r : ForInStep (Option (Array Keyed) × Array Keyed × Nat × Nat × γ)) (st' : SortSt) : Prop := match r with
  | .done c => LQ kf a b st B c st'
  | .yield c => LI kf a b st B c st'
theorem LS.fin {r : Array Keyed} {c : Array Keyed × Nat × Nat × γ} (hst : SameSt st st') (h : MGood kf a.toList b.toList r.toList) : LS kf a b st B (.done (some r, c)) st' := ⟨hst, h⟩
theorem LQ.all {α : Type} {K : Option (Array Keyed) × Array Keyed × Nat × Nat × γ → StateT SortSt Sem α} {Q : α → SortSt → Prop} (k1 : ∀ r c st', SameSt st st' → MGood kf a.toList b.toList r.toList → wpS (model prog w) A E s (K (some r, c)) Q st')
    (k2 : ∀ out ia ib g st', SameSt st st' → LInv kf a.toList b.toList out.toList ia ib → ia + 1 < a.size → ib < b.size → B ia ib → wpS (model prog w) A E s (K (none, out, ia, ib, g)) Q st') : ∀ c st', LQ kf a b st B c st' → wpS (model prog w) A E s (K c) Q st' := by
  rintro ⟨_ | r, out, ia, ib, g⟩ st' hq
  · exact k2 out ia ib g st' hq.same hq.v hq.h1 hq.h2 hq.h3
  · exact k1 r _ st' hq.1 hq.2
end
theorem lt_of_not {i n : Nat} (h : i ≤ n) (e : i ≠ n) : i < n := Nat.lt_of_le_of_ne h e

theorem sort_mergeLo (O : SOrd κ kf S prog w A s) {a b : Array Keyed} {st : SortSt} {Q : Array Keyed → SortSt → Prop} (hk : kindOf st = κ) (ha : a.toList.Pairwise (KLe kf)) (hb : b.toList.Pairwise (KLe kf)) (hSa : ∀ x ∈ a.toList, S x) (hSb : ∀ x ∈ b.toList, S x) (na : 0 < a.size) (nb : 0 < b.size)
    (hlast : ∀ y ∈ b.toList, ∀ x ∈ a.toList.drop (a.size - 1), KLe kf y x) (hfirst : ∀ y, b.toList[0]? = some y → ∀ x ∈ a.toList, KLe kf y x)
    (h : ∀ r st', SameSt st st' → MGood kf a.toList b.toList r.toList → Q r st') : wpS (model prog w) A E s (mergeLoM a b) Q st := by
  have la : a.toList.length = a.size := Array.length_toList
  have lb : b.toList.length = b.size := Array.length_toList
  have good1 : ∀ out ia ib, LInv kf a.toList b.toList out.toList ia ib → (a.size ≤ ia ∨ b.size ≤ ib) → MGood kf a.toList b.toList (out ++ a.extract ia ++ b.extract ib).toList := fun out ia ib v hh => by
    rw [Array.toList_append, Array.toList_append, toList_ext, toList_ext]
    exact v.done ha hb (by rw [la, lb]; exact hh)
  have good2 : ∀ out ia ib, LInv kf a.toList b.toList out.toList ia ib → ia + 1 = a.size → MGood kf a.toList b.toList (out ++ b.extract ib ++ a.extract ia).toList := fun out ia ib v hh => by
    rw [Array.toList_append, Array.toList_append, toList_ext, toList_ext]
    refine v.last ha hb fun y hy x hx => hlast y (List.mem_of_mem_drop hy) x ?_
    rwa [← hh]
  refine wpS_bind (wpS_lift (wpAny_rule ⟨rfl, ?_⟩))
  extract_lets +onlyGivenNames total done lastOfA ia0 ib0
  refine get_at hSb (i := 0) nb fun y0 hy0' hy0 _ => ?_
  refine wpS_bind (sort_elem hy0' ?_)
  extract_lets +onlyGivenNames out0
  have v0 : LInv kf a.toList b.toList out0.toList ia0 ib0 := by
    have z : LInv kf a.toList b.toList [] 0 0 := ⟨.refl _, .nil, (fun _ hx => nomatch hx), (fun _ hx => nomatch hx), rfl⟩
    exact z.pushB hb hy0 fun y hy => hfirst y0 hy0 y hy
  refine wpS_ifeq (fun c1 => wpS_pure (h _ _ (.refl _) (good1 _ _ _ v0 (.inr (Nat.le_of_eq c1.symm))))) fun c1 => ?_
  refine wpS_ifeq (fun c2 => wpS_pure (h _ _ (.refl _) (good2 _ _ _ v0 c2))) fun c2 => ?_
  have hia0 : ia0 + 1 < a.size := Nat.lt_of_le_of_ne na c2
  have hib0 : ib0 < b.size := Nat.lt_of_le_of_ne nb c1
  have ht : total = a.size + b.size := rfl
  have hib1 : 0 + 1 ≤ ia0 + ib0 := Nat.le_refl 1
  clear c1 c2 hy0 hy0'
  refine wpS_bind (wpS_get ?_)
  extract_lets +onlyGivenNames mg0
  clear_value out0 ia0 ib0 mg0 total
  refine wpS_bind (wpS_mono (wpS_forRange (I := fun x => LI kf a b st fun ia ib => x + 1 ≤ ia + ib)
    (Q := LQ kf a b st fun _ _ => False) ?_ (fun c st' hc => hc.toQ fun ia ib h1 h2 h3 => by clear hia0 hib0 hib1 la lb; (first | lia | omega)) (.go (.refl _) v0 hia0 hib0 hib1)) (LQ.all (fun r c st' hst hg => wpS_pure (h r st' hst hg)) fun _ _ _ _ _ _ _ _ _ z => z.elim))
  clear ht hia0 hib0 hib1 v0
  intro x c st1 _ _ hc
  have hst1 := hc.same
  extract_lets +onlyGivenNames s1 out1 s2 ia1 s3 ib1 mg1 ac1
  have v1 : LInv kf a.toList b.toList out1.toList ia1 ib1 := hc.v
  have e1 : ia1 + 1 < a.size := hc.h1
  have e2 : ib1 < b.size := hc.h2
  have e3 : x + 1 ≤ ia1 + ib1 := hc.h3
  clear_value out1 ia1 ib1 mg1
  refine wpS_bind (wpS_mono (wpS_forRange (I := fun y => LI kf a b st fun ia ib => x + 1 + y ≤ ia + ib)
    (Q := LQ kf a b st fun ia ib => x + 2 ≤ ia + ib) ?_ (fun c st' hc => hc.toQ fun ia ib h1 h2 h3 => by clear e1 e2 e3 la lb; (first | lia | omega)) (.go hst1 v1 e1 e2 e3)) (LQ.all (fun r c st' hst hg => wpS_pure (LQ.fin hst hg)) fun out ia ib g st2 hst2 v h1 h2 h3 => ?_))
  · clear e1 e2 e3 v1 hst1 hc la lb
    intro y c st2 _ _ hc
    have hst2 := hc.same
    extract_lets +onlyGivenNames t1 out2 t2 ia2 t3 ib2 t4 ac2 bc2
    have v2 : LInv kf a.toList b.toList out2.toList ia2 ib2 := hc.v
    have d1 : ia2 + 1 < a.size := hc.h1
    have d2 : ib2 < b.size := hc.h2
    have d3 : x + 1 + y ≤ ia2 + ib2 := hc.h3
    clear_value out2 ia2 ib2 ac2 bc2
    refine get_at hSb (i := ib2) d2 fun yb hyb' hyb syb => get_at hSa (i := ia2) (Nat.lt_of_succ_lt d1) fun xa hxa' hxa sxa => ?_
    refine wpS_bind (sort_elem hyb' (wpS_bind (sort_elem hxa' (sort_lt2 O (hst2.kind.trans hk) syb sxa (fun hlt => ?_) fun hlt => ?_))))
    · refine wpS_bind (sort_elem hyb' ?_)
      extract_lets +onlyGivenNames out3 ib3
      have v3 : LInv kf a.toList b.toList out3.toList ia2 ib3 := by
        have := v2.pushB hb hyb fun z hz => by
          obtain ⟨i, hi, hz⟩ := mem_drop_iff.mp hz
          exact (KLe.of_lt hlt).trans (srt_at ha hi hxa hz)
        rwa [← Array.toList_push] at this
      have q : x + 1 + (y + 1) ≤ ia2 + ib3 := Nat.succ_le_succ d3
      have q2 : ib3 ≤ b.size := d2
      clear_value out3 ib3
      refine wpS_ifeq (fun c1 => wpS_pure (LQ.fin hst2 (good1 _ _ _ v3 (.inr (Nat.le_of_eq c1.symm))))) fun c1 => ?_
      exact wpS_ite (fun _ => wpS_pure (LQ.go hst2 v3 d1 (lt_of_not q2 c1) (two_of q))) fun _ => wpS_pure (LI.go hst2 v3 d1 (lt_of_not q2 c1) q)
    · refine wpS_bind (sort_elem hxa' ?_)
      extract_lets +onlyGivenNames out3 ia3
      have v3 : LInv kf a.toList b.toList out3.toList ia3 ib2 := by
        have := v2.pushA ha hxa fun z hz => by
          obtain ⟨i, hi, hz⟩ := mem_drop_iff.mp hz
          exact KLe.trans (kf := kf) hlt (srt_at hb hi hyb hz)
        rwa [← Array.toList_push] at this
      have q : x + 1 + (y + 1) ≤ ia3 + ib2 := (Nat.succ_add ia2 ib2).symm ▸ Nat.succ_le_succ d3
      have q2 : ia3 + 1 ≤ a.size := d1
      clear_value out3 ia3
      refine wpS_ifeq (fun c1 => wpS_pure (LQ.fin hst2 (good2 _ _ _ v3 c1))) fun c1 => ?_
      exact wpS_ite (fun _ => wpS_pure (LQ.go hst2 v3 (lt_of_not q2 c1) d2 (two_of q))) fun _ => wpS_pure (LI.go hst2 v3 (lt_of_not q2 c1) d2 q)
  · refine wpS_bind (wpS_lift (wpAny_rule ⟨rfl, ?_⟩))
    refine wpS_bind (wpS_mono (wpS_forRange (I := fun _ => LI kf a b st fun ia ib => x + 2 ≤ ia + ib)
      (Q := LQ kf a b st fun ia ib => x + 2 ≤ ia + ib) ?_ (fun c st' hc => hc.toQ fun _ _ _ _ h3 => h3) (.go hst2 v h1 h2 h3)) (LQ.all (fun r c st' hst hg => wpS_pure (LQ.fin hst hg)) fun out ia ib g st' hst v h1 h2 h3 =>
      wpS_bind (sort_setG hst fun st5 hst5 => wpS_pure (LI.go hst5 v h1 h2 h3))))
    clear v h1 h2 h3 e1 e2 e3 v1 hst1 hc
    intro y c st3 _ _ hc
    have hst3 := hc.same
    refine wpS_mono (Q := LS kf a b st fun ia ib => x + 2 ≤ ia + ib) ?_ fun r _ hr => by cases r <;> exact hr
    extract_lets +onlyGivenNames t1 out2 t2 ia2 t3 ib2 t4 mg2 t5 ac2 bc2 ibx jp1 mgx
    have v2 : LInv kf a.toList b.toList out2.toList ia2 ib2 := hc.v
    have d1 : ia2 + 1 < a.size := hc.h1
    have d2 : ib2 < b.size := hc.h2
    have d3 : x + 2 ≤ ia2 + ib2 := hc.h3
    have J1 : ∀ u m st4, SameSt st st4 → wpS (model prog w) A E s (jp1 u m) (LS kf a b st fun ia ib => x + 2 ≤ ia + ib) st4 := by
      intro u m st4 hst4
      have hibx : ib2 + 1 = ibx := rfl
      have l2 : ibx ≤ b.size := d2
      clear hc
      unfold jp1
      clear_value ibx out2 ia2 ib2 mg2 ac2 bc2
      refine wpS_bind (sort_setG hst4 fun st5 hst5 => ?_)
      have hk5 := hst5.kind.trans hk
      refine get_at hSb (i := ib2) d2 fun yb hyb' hyb syb => wpS_bind (sort_elem hyb' ?_)
      refine wpS_bind (gallopR O hk5 ha hSa syb (Nat.le_of_eq (Nat.add_sub_cancel' (Nat.le_of_lt (Nat.lt_of_succ_lt d1)))) (Nat.sub_pos_of_lt (Nat.lt_of_succ_lt d1)) fun k hkn g1 g2 => ?_)
      dsimp -zeta only
      extract_lets +onlyGivenNames ac3 jp2 out3 ia3
      have J2 : ∀ u out ia, LInv kf a.toList b.toList out.toList ia ib2 → ia + 1 < a.size → (∀ z ∈ a.toList.drop ia, KLe kf yb z) → x + 2 ≤ ia + ib2 → wpS (model prog w) A E s (jp2 u out ia) (LS kf a b st fun ia ib => x + 2 ≤ ia + ib) st5 := by
        intro u out ia v d1 hle d3
        unfold jp2
        refine wpS_bind (sort_elem hyb' ?_)
        extract_lets +onlyGivenNames out4
        have v4 : LInv kf a.toList b.toList out4.toList ia ibx := by
          have := v.pushB hb hyb hle
          rw [← Array.toList_push] at this
          exact hibx ▸ this
        have d4 : x + 2 ≤ ia + ibx := Nat.le_trans d3 (Nat.add_le_add_left (hibx ▸ Nat.le_succ _) _)
        clear_value out4 ac3
        refine wpS_ifeq (fun c1 => wpS_pure (LS.fin hst5 (good1 _ _ _ v4 (.inr (Nat.le_of_eq c1.symm))))) fun c1 => ?_
        have l3 := lt_of_not l2 c1
        refine get_at hSa (i := ia) (Nat.lt_of_succ_lt d1) fun xa hxa' hxa sxa => wpS_bind (sort_elem hxa' ?_)
        refine wpS_bind (gallopL O hk5 hb hSb sxa (Nat.le_of_eq (Nat.add_sub_cancel' l2)) (Nat.sub_pos_of_lt l3) fun k2 hkn2 g3 g4 => ?_)
        dsimp -zeta only
        extract_lets +onlyGivenNames bc4 ia4 jp3 out5 ib5
        have J3 : ∀ u out ib, LInv kf a.toList b.toList out.toList ia ib → ib < b.size → (∀ z ∈ b.toList.drop ib, KLe kf xa z) → x + 2 ≤ ia + ib → wpS (model prog w) A E s (jp3 u out ib) (LS kf a b st fun ia ib => x + 2 ≤ ia + ib) st5 := by
          intro u out ib v d2 hle d3
          unfold jp3
          refine wpS_bind (sort_elem hxa' ?_)
          extract_lets +onlyGivenNames out6
          have v6 : LInv kf a.toList b.toList out6.toList ia4 ib := by
            have := v.pushA ha hxa hle
            rwa [← Array.toList_push] at this
          have q : x + 2 ≤ ia4 + ib := Nat.le_trans d3 (Nat.add_le_add_right (Nat.le_succ ia) _)
          have q2 : ia4 + 1 ≤ a.size := d1
          clear_value out6 ia4 bc4
          refine wpS_ifeq (fun c2 => wpS_pure (LS.fin hst5 (good2 _ _ _ v6 c2))) fun c2 => ?_
          exact wpS_ite (fun _ => wpS_pure (LQ.go hst5 v6 (lt_of_not q2 c2) d2 q)) fun _ => wpS_pure (LI.go hst5 v6 (lt_of_not q2 c2) d2 q)
        have hgt : ∀ z ∈ b.toList.drop (ibx + k2), KLe kf xa z := fun z hz => by
          obtain ⟨i, hi, hz'⟩ := mem_drop_iff.mp hz
          exact g4 i z hi (drop_lt l2 (lb ▸ (List.getElem?_eq_some_iff.mp hz').1)) hz'
        have v5 : LInv kf a.toList b.toList out5.toList ia ib5 := by
          show LInv kf a.toList b.toList (out4 ++ b.extract ibx (ibx + k2)).toList ia (ibx + k2)
          rw [Array.toList_append, toList_ext2]
          refine v4.moveB hb (drop_cut _ _ _) (len_cut (lb ▸ hkn2)) fun z hz y hy => ?_
          obtain ⟨i, hi, hi2⟩ := mem_cut.mp hz
          obtain ⟨j, hj, hy'⟩ := mem_drop_iff.mp hy
          exact (KLe.of_lt (g3 _ z (Nat.le_add_right _ _) (Nat.add_lt_add_left hi _) hi2)).trans (srt_at ha hj hxa hy')
        have hib5 : ibx + k2 = ib5 := rfl
        have l5 : ib5 ≤ b.size := add_cut l2 hkn2
        have d5 : x + 2 ≤ ia + ib5 := Nat.le_trans d4 (Nat.add_le_add_left (hib5 ▸ Nat.le_add_right _ _) _)
        clear_value jp3 out5 ib5
        refine wpS_ite (fun c3 => wpS_ifeq (fun c4 => wpS_pure (LS.fin hst5 (good1 _ _ _ v5 (.inr (Nat.le_of_eq c4.symm))))) fun c4 => ?_) (fun c3 => ?_)
        · exact J3 _ _ _ v5 (lt_of_not l5 c4) (hib5 ▸ hgt) d5
        · have hke : k2 = 0 := Nat.eq_zero_of_not_pos c3
          exact J3 _ _ _ v4 l3 (by rw [hke] at hgt; exact hgt) d4
      have hgt : ∀ z ∈ a.toList.drop (ia2 + k), KLe kf yb z := fun z hz => by
        obtain ⟨i, hi, hz'⟩ := mem_drop_iff.mp hz
        exact KLe.of_lt (g2 i z hi (drop_lt (Nat.le_of_lt (Nat.lt_of_succ_lt d1)) (la ▸ (List.getElem?_eq_some_iff.mp hz').1)) hz')
      have v3 : LInv kf a.toList b.toList out3.toList ia3 ib2 := by
        show LInv kf a.toList b.toList (out2 ++ a.extract ia2 (ia2 + k)).toList (ia2 + k) ib2
        rw [Array.toList_append, toList_ext2]
        refine v2.moveA ha (drop_cut _ _ _) (len_cut (la ▸ hkn)) fun z hz y hy => ?_
        obtain ⟨i, hi, hi2⟩ := mem_cut.mp hz
        obtain ⟨j, hj, hy'⟩ := mem_drop_iff.mp hy
        exact (g1 _ z (Nat.le_add_right _ _) (Nat.add_lt_add_left hi _) hi2).trans (srt_at hb hj hyb hy')
      have hia3 : ia2 + k = ia3 := rfl
      have l5 : ia3 ≤ a.size := add_cut (Nat.le_of_lt (Nat.lt_of_succ_lt d1)) hkn
      have d5 : x + 2 ≤ ia3 + ib2 := Nat.le_trans d3 (Nat.add_le_add_right (hia3 ▸ Nat.le_add_right _ _) _)
      clear_value jp2 out3 ia3
      refine wpS_ite (fun c3 => wpS_ifeq (fun c4 => wpS_pure (LS.fin hst5 (good2 _ _ _ v3 c4))) fun c4 => wpS_ifeq (fun c5 => wpS_pure (LS.fin hst5 (good1 _ _ _ v3 (.inl (Nat.le_of_eq c5.symm))))) fun c5 => ?_) (fun c3 => ?_)
      · exact J2 _ _ _ v3 (lt_of_not (lt_of_not l5 c5) c4) (hia3 ▸ hgt) d5
      · have hke : k = 0 := Nat.eq_zero_of_not_pos c3
        exact J2 _ _ _ v2 d1 (by rw [hke] at hgt; exact hgt) d3
    clear_value jp1
    exact wpS_ite (fun _ => J1 _ _ _ hst3) fun _ => J1 _ _ _ hst3
end
end Mine
end
section
open PySem PySem.W PyProof.Rows
set_option maxRecDepth 100000
namespace Mine
section
variable (kf : Keyed → El)
structure HInv (la lb o : List Keyed) (na nb : Nat) : Prop where
  perm : (la.take na ++ (lb.take nb ++ o)).Perm (la ++ lb)
  srt : o.Pairwise (KLe kf)
  lea : ∀ y ∈ la.take na, ∀ x ∈ o, KLe kf y x
  leb : ∀ y ∈ lb.take nb, ∀ x ∈ o, KLe kf y x
  nal : na ≤ la.length
  nbl : nb ≤ lb.length
end
section
variable {kf : Keyed → El} {la lb o c : List Keyed} {na nb : Nat}
theorem mem_take_iff {l : List Keyed} {m : Nat} {x : Keyed} : x ∈ l.take m ↔ ∃ i, i < m ∧ l[i]? = some x := by
  rw [List.mem_iff_getElem?]
  constructor
  · rintro ⟨i, hi⟩
    rw [List.getElem?_take] at hi
    split at hi
    · exact ⟨i, by assumption, hi⟩
    · cases hi
  · rintro ⟨i, hi, hx⟩
    refine ⟨i, ?_⟩
    rw [List.getElem?_take, if_pos hi]
    exact hx
theorem HInv.moveA (v : HInv kf la lb o na nb) (ha : la.Pairwise (KLe kf)) {na' : Nat} (hle : na' ≤ na) (e : la.take na = la.take na' ++ c) (h : ∀ x ∈ c, ∀ y ∈ lb.take nb, KLe kf y x) : HInv kf la lb (c ++ o) na' nb := by
  have hd : (la.take na' ++ c).Pairwise (KLe kf) := e ▸ ha.sublist (List.take_sublist _ _)
  obtain ⟨p1, p2, p3⟩ := List.pairwise_append.mp hd
  refine ⟨?_, List.pairwise_append.mpr ⟨p2, v.srt, fun x hx y hy => v.lea x (e ▸ List.mem_append.mpr (.inr hx)) y hy⟩, fun y hy x hx => ?_, fun y hy x hx => ?_, by have := v.nal; (first | lia | omega), by have := v.nbl; (first | lia | omega)⟩
  · have := v.perm
    rw [e, List.append_assoc] at this
    refine List.Perm.trans ?_ this
    refine List.Perm.append_left _ ?_
    rw [← List.append_assoc, ← List.append_assoc]
    exact List.perm_append_comm.append_right _
  · rcases List.mem_append.mp hx with z | z
    · exact p3 y hy x z
    · exact v.lea y (e ▸ List.mem_append.mpr (.inl hy)) x z
  · rcases List.mem_append.mp hx with z | z
    · exact h x z y hy
    · exact v.leb y hy x z
theorem HInv.moveB (v : HInv kf la lb o na nb) (hb : lb.Pairwise (KLe kf)) {nb' : Nat} (hle : nb' ≤ nb) (e : lb.take nb = lb.take nb' ++ c) (h : ∀ x ∈ c, ∀ y ∈ la.take na, KLe kf y x) : HInv kf la lb (c ++ o) na nb' := by
  have hd : (lb.take nb' ++ c).Pairwise (KLe kf) := e ▸ hb.sublist (List.take_sublist _ _)
  obtain ⟨p1, p2, p3⟩ := List.pairwise_append.mp hd
  refine ⟨?_, List.pairwise_append.mpr ⟨p2, v.srt, fun x hx y hy => v.leb x (e ▸ List.mem_append.mpr (.inr hx)) y hy⟩, fun y hy x hx => ?_, fun y hy x hx => ?_, by have := v.nal; (first | lia | omega), by have := v.nbl; (first | lia | omega)⟩
  · have := v.perm
    rw [e, List.append_assoc] at this
    exact this
  · rcases List.mem_append.mp hx with z | z
    · exact h x z y hy
    · exact v.lea y hy x z
  · rcases List.mem_append.mp hx with z | z
    · exact p3 y hy x z
    · exact v.leb y (e ▸ List.mem_append.mpr (.inl hy)) x z
theorem HInv.pushA (v : HInv kf la lb o na nb) (ha : la.Pairwise (KLe kf)) {m : Nat} {x : Keyed} (hm : na = m + 1) (hx : la[m]? = some x) (h : ∀ y ∈ lb.take nb, KLe kf y x) : HInv kf la lb (x :: o) m nb := by
  refine v.moveA ha (c := [x]) (by (first | lia | omega)) (by rw [hm, List.take_add_one, hx]; rfl) fun z hz => ?_
  simp at hz; subst hz; exact h
theorem HInv.pushB (v : HInv kf la lb o na nb) (hb : lb.Pairwise (KLe kf)) {m : Nat} {x : Keyed} (hm : nb = m + 1) (hx : lb[m]? = some x) (h : ∀ y ∈ la.take na, KLe kf y x) : HInv kf la lb (x :: o) na m := by
  refine v.moveB hb (c := [x]) (by (first | lia | omega)) (by rw [hm, List.take_add_one, hx]; rfl) fun z hz => ?_
  simp at hz; subst hz; exact h
theorem HInv.done (v : HInv kf la lb o na nb) (ha : la.Pairwise (KLe kf)) (hb : lb.Pairwise (KLe kf)) (h : na = 0 ∨ nb = 0) : MGood kf la lb (la.take na ++ lb.take nb ++ o) := by
  refine ⟨by rw [List.append_assoc]; exact v.perm, ?_⟩
  rw [List.pairwise_append]
  refine ⟨?_, v.srt, fun x hx y hy => ?_⟩
  · rcases h with h | h
    · rw [h, List.take_zero, List.nil_append]; exact hb.sublist (List.take_sublist _ _)
    · rw [h, List.take_zero, List.append_nil]; exact ha.sublist (List.take_sublist _ _)
  · rcases List.mem_append.mp hx with z | z
    · exact v.lea x z y hy
    · exact v.leb x z y hy
theorem HInv.first (v : HInv kf la lb o na nb) (ha : la.Pairwise (KLe kf)) (hb : lb.Pairwise (KLe kf)) (h : ∀ y ∈ lb.take nb, ∀ x ∈ la.take na, KLe kf y x) : MGood kf la lb (lb.take nb ++ la.take na ++ o) := by
  refine ⟨?_, ?_⟩
  · refine List.Perm.trans ?_ v.perm
    rw [← List.append_assoc]
    exact List.perm_append_comm.append_right _
  · rw [List.pairwise_append]
    refine ⟨List.pairwise_append.mpr ⟨hb.sublist (List.take_sublist _ _), ha.sublist (List.take_sublist _ _), h⟩, v.srt, fun x hx y hy => ?_⟩
    rcases List.mem_append.mp hx with z | z
    · exact v.leb x z y hy
    · exact v.lea x z y hy
end
theorem toList_ext0 (a : Array Keyed) (k : Nat) : (a.extract 0 k).toList = a.toList.take k := by simp
theorem toList_ext3 (a : Array Keyed) (i k : Nat) : (a.extract i k).toList = (a.toList.drop i).take (k - i) := by simp

section
variable {κ : SortKind} {kf : Keyed → El} {S : Keyed → Prop} {prog : Program} {w : World} {A : Around} {s : Shared} {E : Value → Shared → Prop}
theorem sub1_lt {n m : Nat} (h : 1 ≤ n) (h2 : n ≤ m) : n - 1 < m := by (first | lia | omega)
theorem cut_lt {k n i : Nat} (h : k ≤ n) (hi : i < n - k) : k + i < n := by (first | lia | omega)
theorem two_le {n : Nat} (h : n ≠ 0) (h1 : n ≠ 1) : 2 ≤ n := by (first | lia | omega)
theorem sub_zero {m k n : Nat} (e : m = n - k) (h : ¬ m > 0) (hk : k ≤ n) : k = n := by (first | lia | omega)
theorem take_cut {l : List Keyed} {k n : Nat} (h : k ≤ n) : l.take n = l.take k ++ (l.drop k).take (n - k) := by
  rw [← List.take_add, Nat.add_sub_cancel' h]
structure HI {γ : Type} (kf : Keyed → El) (la lb : List Keyed) (st : SortSt) (B : Nat → Nat → Prop) (c : Option (Array Keyed) × Nat × Nat × Array Keyed × γ) (st' : SortSt) : Prop where
  same : SameSt st st'
  non : c.1 = none
  v : HInv kf la lb c.2.2.2.1.toList.reverse c.2.1 c.2.2.1
  h1 : 1 ≤ c.2.1
  h2 : 2 ≤ c.2.2.1
  h3 : B c.2.1 c.2.2.1
def HQ {γ : Type} (kf : Keyed → El) (la lb : List Keyed) (st : SortSt) (B : Nat → Nat → Prop) (c : Option (Array Keyed) × Nat × Nat × Array Keyed × γ) (st' : SortSt) : Prop := match c.1 with
  | some r => SameSt st st' ∧ MGood kf la lb r.toList
  | none => HI kf la lb st B c st'
section
variable {γ : Type} {la lb : List Keyed} {st st' : SortSt} {B : Nat → Nat → Prop}
theorem HI.go {na nb : Nat} {out : Array Keyed} {g : γ} (hst : SameSt st st') (v : HInv kf la lb out.toList.reverse na nb) (h1 : 1 ≤ na) (h2 : 2 ≤ nb) (h3 : B na nb) : HI kf la lb st B (none, na, nb, out, g) st' := ⟨hst, rfl, v, h1, h2, h3⟩
theorem HQ.go {na nb : Nat} {out : Array Keyed} {g : γ} (hst : SameSt st st') (v : HInv kf la lb out.toList.reverse na nb) (h1 : 1 ≤ na) (h2 : 2 ≤ nb) (h3 : B na nb) : HQ kf la lb st B (none, na, nb, out, g) st' := HI.go hst v h1 h2 h3
theorem HQ.fin {r : Array Keyed} {c : Nat × Nat × Array Keyed × γ} (hst : SameSt st st') (h : MGood kf la lb r.toList) : HQ kf la lb st B (some r, c) st' := ⟨hst, h⟩
theorem HI.toQ {B' : Nat → Nat → Prop} {c : Option (Array Keyed) × Nat × Nat × Array Keyed × γ} (hc : HI kf la lb st B c st') (hB : ∀ na nb, 1 ≤ na → 2 ≤ nb → B na nb → B' na nb) : HQ kf la lb st B' c st' := by
  obtain ⟨c0, na, nb, out, g⟩ := c
  cases hc.non
  exact HQ.go hc.same hc.v hc.h1 hc.h2 (hB _ _ hc.h1 hc.h2 hc.h3)
def HS (kf : Keyed → El) (la lb : List Keyed) (st : SortSt) (B : Nat → Nat → Prop) (r : ForInStep (Option (Array Keyed) × Nat × Nat × Array Keyed × γ)) (st' : SortSt) : Prop := match r with
  | .done c => HQ kf la lb st B c st'
  | .yield c => HI kf la lb st B c st'
theorem HS.fin {r : Array Keyed} {c : Nat × Nat × Array Keyed × γ} (hst : SameSt st st') (h : MGood kf la lb r.toList) : HS kf la lb st B (.done (some r, c)) st' := ⟨hst, h⟩
theorem HQ.all {α : Type} {K : Option (Array Keyed) × Nat × Nat × Array Keyed × γ → StateT SortSt Sem α} {Q : α → SortSt → Prop} (k1 : ∀ r c st', SameSt st st' → MGood kf la lb r.toList → wpS (model prog w) A E s (K (some r, c)) Q st')
    (k2 : ∀ na nb out g st', SameSt st st' → HInv kf la lb out.toList.reverse na nb → 1 ≤ na → 2 ≤ nb → B na nb → wpS (model prog w) A E s (K (none, na, nb, out, g)) Q st') : ∀ c st', HQ kf la lb st B c st' → wpS (model prog w) A E s (K c) Q st' := by
  rintro ⟨_ | r, na, nb, out, g⟩ st' hq
  · exact k2 na nb out g st' hq.same hq.v hq.h1 hq.h2 hq.h3
  · exact k1 r _ st' hq.1 hq.2
end

theorem sort_mergeHi (O : SOrd κ kf S prog w A s) {a b : Array Keyed} {st : SortSt} {Q : Array Keyed → SortSt → Prop} (hk : kindOf st = κ) (ha : a.toList.Pairwise (KLe kf)) (hb : b.toList.Pairwise (KLe kf)) (hSa : ∀ x ∈ a.toList, S x) (hSb : ∀ x ∈ b.toList, S x) (na : 0 < a.size) (nb : 0 < b.size)
    (hlast : ∀ y ∈ b.toList, ∀ x, a.toList[a.size - 1]? = some x → KLe kf y x) (hfirst : ∀ y ∈ b.toList.take 1, ∀ x ∈ a.toList, KLe kf y x)
    (h : ∀ r st', SameSt st st' → MGood kf a.toList b.toList r.toList → Q r st') : wpS (model prog w) A E s (mergeHiM a b) Q st := by
  have la : a.toList.length = a.size := Array.length_toList
  have lb : b.toList.length = b.size := Array.length_toList
  have good1 : ∀ (out : Array Keyed) (na nb : Nat), HInv kf a.toList b.toList out.toList.reverse na nb → (na = 0 ∨ nb = 0) → MGood kf a.toList b.toList (a.extract 0 na ++ b.extract 0 nb ++ out.reverse).toList := fun out ia ib v hh => by
    rw [Array.toList_append, Array.toList_append, toList_ext0, toList_ext0, Array.toList_reverse]
    exact v.done ha hb hh
  have good2 : ∀ (out : Array Keyed) (na nb : Nat), HInv kf a.toList b.toList out.toList.reverse na nb → nb = 1 → MGood kf a.toList b.toList (b.extract 0 nb ++ a.extract 0 na ++ out.reverse).toList := fun out ia ib v hh => by
    rw [Array.toList_append, Array.toList_append, toList_ext0, toList_ext0, Array.toList_reverse]
    subst hh
    exact v.first ha hb fun y hy x hx => hfirst y hy x (List.mem_of_mem_take hx)
  refine wpS_bind (wpS_lift (wpAny_rule ⟨rfl, ?_⟩))
  extract_lets +onlyGivenNames total done firstOfB na0 nb0 q1
  refine get_at hSa (i := na0) (Nat.sub_lt na Nat.one_pos) fun x0 hx0' hx0 _ => ?_
  refine wpS_bind (sort_elem hx0' ?_)
  extract_lets +onlyGivenNames out0
  have v0 : HInv kf a.toList b.toList out0.toList.reverse na0 nb0 := by
    have z : HInv kf a.toList b.toList [] a.size b.size := ⟨by rw [List.take_of_length_le (Nat.le_of_eq la), List.take_of_length_le (Nat.le_of_eq lb), List.append_nil], .nil, (fun _ _ _ hx => nomatch hx), (fun _ _ _ hx => nomatch hx), Nat.le_of_eq la.symm, Nat.le_of_eq lb.symm⟩
    exact z.pushA ha (m := na0) (Nat.sub_add_cancel na).symm hx0 fun y hy => hlast y (List.mem_of_mem_take hy) x0 hx0
  have ht : total = a.size + b.size := rfl
  have hna0 : na0 + 1 = a.size := Nat.sub_add_cancel na
  have hnb0 : nb0 = b.size := rfl
  clear_value na0 nb0
  refine wpS_ifeq (fun c1 => wpS_pure (h _ _ (.refl _) (good1 _ _ _ v0 (.inl c1)))) fun c1 => ?_
  refine wpS_ifeq (fun c2 => wpS_pure (h _ _ (.refl _) (good2 _ _ _ v0 c2))) fun c2 => ?_
  refine wpS_bind (wpS_get ?_)
  extract_lets +onlyGivenNames mg0
  clear_value out0 mg0 total q1
  have e1 : 1 ≤ na0 := Nat.pos_of_ne_zero c1
  have e2 : 2 ≤ nb0 := by (first | lia | omega)
  clear c1 c2 hx0 hx0'
  refine wpS_bind (wpS_mono (wpS_forRange (I := fun x => HI kf a.toList b.toList st fun na nb => x + 1 + na + nb ≤ a.size + b.size)
    (Q := HQ kf a.toList b.toList st fun _ _ => False) ?_ (fun c st' hc => hc.toQ fun na nb h1 h2 h3 => by (first | lia | omega)) (.go (.refl _) v0 e1 e2 (by (first | lia | omega)))) (HQ.all (fun r c st' hst hg => wpS_pure (h r st' hst hg)) fun _ _ _ _ _ _ _ _ _ z => z.elim))
  · clear ht hna0 hnb0 v0 e1 e2
    intro x c st1 _ _ hc
    have hst1 := hc.same
    extract_lets +onlyGivenNames s1 na1 s2 nb1 s3 out1 mg1
    have v1 : HInv kf a.toList b.toList out1.toList.reverse na1 nb1 := hc.v
    have e1 : 1 ≤ na1 := hc.h1
    have e2 : 2 ≤ nb1 := hc.h2
    have e3 : x + 1 + na1 + nb1 ≤ a.size + b.size := hc.h3
    clear_value out1 na1 nb1 mg1
    refine wpS_bind (wpS_mono (wpS_forRange (I := fun y => HI kf a.toList b.toList st fun na nb => x + 1 + y + na + nb ≤ a.size + b.size)
      (Q := HQ kf a.toList b.toList st fun na nb => x + 2 + na + nb ≤ a.size + b.size) ?_ ?_ (.go hst1 v1 e1 e2 e3)) (HQ.all (fun r c st' hst hg => wpS_pure (HQ.fin hst hg)) fun na nb out g st2 hst2 v h1 h2 h3 => ?_))
    · clear e1 e2 e3 v1 hst1 hc
      intro y c st2 _ _ hc
      have hst2 := hc.same
      extract_lets +onlyGivenNames t1 na2 t2 nb2 t3 out2 t4 ac2 bc2
      have v2 : HInv kf a.toList b.toList out2.toList.reverse na2 nb2 := hc.v
      have d1 : 1 ≤ na2 := hc.h1
      have d2 : 2 ≤ nb2 := hc.h2
      have d3 : x + 1 + y + na2 + nb2 ≤ a.size + b.size := hc.h3
      have l1 : na2 ≤ a.size := la ▸ v2.nal
      have l2 : nb2 ≤ b.size := lb ▸ v2.nbl
      clear la lb hc
      clear_value out2 na2 nb2 ac2 bc2
      refine get_at hSb (i := nb2 - 1) (sub1_lt (Nat.le_of_lt d2) l2) fun yb hyb' hyb syb => get_at hSa (i := na2 - 1) (sub1_lt d1 l1) fun xa hxa' hxa sxa => ?_
      refine wpS_bind (sort_elem hyb' (wpS_bind (sort_elem hxa' (sort_lt2 O (hst2.kind.trans hk) syb sxa (fun hlt => ?_) fun hlt => ?_))))
      · refine wpS_ift rfl ?_
        extract_lets +onlyGivenNames na3
        refine wpS_bind (sort_elem hxa' ?_)
        extract_lets +onlyGivenNames out3
        have v3 : HInv kf a.toList b.toList out3.toList.reverse na3 nb2 := by
          have := v2.pushA ha (m := na2 - 1) (Nat.sub_add_cancel d1).symm hxa fun z hz => by
            obtain ⟨i, hi, hz⟩ := mem_take_iff.mp hz
            exact (srt_at hb (Nat.le_sub_one_of_lt hi) hz hyb).trans (KLe.of_lt hlt)
          rwa [← List.reverse_concat, ← Array.toList_push] at this
        have hna3 : na3 + 1 = na2 := Nat.sub_add_cancel d1
        clear_value out3 na3
        refine wpS_ifeq (fun c1 => wpS_pure (HQ.fin hst2 (good1 _ _ _ v3 (.inl c1)))) fun c1 => ?_
        have q : x + 1 + (y + 1) + na3 + nb2 ≤ a.size + b.size := by clear c1 l1 l2 d1 d2; (first | lia | omega)
        exact wpS_ite (fun _ => wpS_pure (HQ.go hst2 v3 (Nat.pos_of_ne_zero c1) d2 (by clear c1 l1 l2 d1 d2 hna3 d3; (first | lia | omega)))) fun _ => wpS_pure (HI.go hst2 v3 (Nat.pos_of_ne_zero c1) d2 q)
      · refine wpS_iff Bool.false_ne_true ?_
        extract_lets +onlyGivenNames nb3
        refine wpS_bind (sort_elem hyb' ?_)
        extract_lets +onlyGivenNames out3
        have v3 : HInv kf a.toList b.toList out3.toList.reverse na2 nb3 := by
          have := v2.pushB hb (m := nb2 - 1) (Nat.sub_add_cancel (Nat.le_of_lt d2)).symm hyb fun z hz => by
            obtain ⟨i, hi, hz⟩ := mem_take_iff.mp hz
            exact (srt_at ha (Nat.le_sub_one_of_lt hi) hz hxa).trans hlt
          rwa [← List.reverse_concat, ← Array.toList_push] at this
        have hnb3 : nb3 + 1 = nb2 := Nat.sub_add_cancel (Nat.le_of_lt d2)
        clear_value out3 nb3
        refine wpS_ifeq (fun c1 => wpS_pure (HQ.fin hst2 (good2 _ _ _ v3 c1))) fun c1 => ?_
        have q1 : 2 ≤ nb3 := by clear l1 l2 d1 d3; (first | lia | omega)
        have q : x + 1 + (y + 1) + na2 + nb3 ≤ a.size + b.size := by clear c1 l1 l2 d1 d2; (first | lia | omega)
        exact wpS_ite (fun _ => wpS_pure (HQ.go hst2 v3 d1 q1 (by clear q1 c1 l1 l2 d1 d2 hnb3 d3; (first | lia | omega)))) fun _ => wpS_pure (HI.go hst2 v3 d1 q1 q)
    · exact fun c st' hc => hc.toQ fun na nb h1 h2 h3 => by clear e1 e2 e3 la lb; (first | lia | omega)
    · refine wpS_bind (wpS_lift (wpAny_rule ⟨rfl, ?_⟩))
      refine wpS_bind (wpS_mono (wpS_forRange (I := fun _ => HI kf a.toList b.toList st fun na nb => x + 2 + na + nb ≤ a.size + b.size)
        (Q := HQ kf a.toList b.toList st fun na nb => x + 2 + na + nb ≤ a.size + b.size) ?_ (fun c st' hc => hc.toQ fun _ _ _ _ h3 => h3) (.go hst2 v h1 h2 h3)) (HQ.all (fun r c st' hst hg => wpS_pure (HQ.fin hst hg)) fun na nb out g st' hst v h1 h2 h3 =>
        wpS_bind (sort_setG hst fun st5 hst5 => wpS_pure (HI.go hst5 v h1 h2 (by (first | lia | omega))))))
      · clear v h1 h2 h3 e1 e2 e3 v1 hst1 hc
        intro y c st3 _ _ hc
        have hst3 := hc.same
        refine wpS_mono (Q := HS kf a.toList b.toList st fun na nb => x + 2 + na + nb ≤ a.size + b.size) ?_ fun r _ hr => by cases r <;> exact hr
        extract_lets +onlyGivenNames t1 na2 t2 nb2 t3 out2 t4 mg2 t5 ac2 bc2 nbx jp1 mgx
        have v2 : HInv kf a.toList b.toList out2.toList.reverse na2 nb2 := hc.v
        have d1 : 1 ≤ na2 := hc.h1
        have d2 : 2 ≤ nb2 := hc.h2
        have d3 : x + 2 + na2 + nb2 ≤ a.size + b.size := hc.h3
        have J1 : ∀ u m st4, SameSt st st4 → wpS (model prog w) A E s (jp1 u m) (HS kf a.toList b.toList st fun na nb => x + 2 + na + nb ≤ a.size + b.size) st4 := by
          intro u m st4 hst4
          have hnbe : nb2 - 1 = nbx := rfl
          have hnbx : nbx + 1 = nb2 := Nat.sub_add_cancel (Nat.le_of_lt d2)
          have l1 : na2 ≤ a.size := la ▸ v2.nal
          have l2 : nbx < b.size := Nat.le_trans (Nat.le_of_eq hnbx) (lb ▸ v2.nbl)
          have la' := la
          clear la lb hc
          unfold jp1
          clear_value nbx out2 na2 nb2 mg2 ac2 bc2
          refine wpS_bind (sort_setG hst4 fun st5 hst5 => ?_)
          have hk5 := hst5.kind.trans hk
          refine get_at hSb (i := nbx) l2 fun yb hyb' hyb syb => wpS_bind (sort_elem (i := nb2 - 1) (hnbe ▸ hyb') ?_)
          clear hnbe
          refine wpS_bind (gallopR O hk5 ha hSa syb ((Nat.zero_add _).symm ▸ l1) (sub1_lt d1 (Nat.le_refl _)) fun k hkn g1 g2 => ?_)
          dsimp -zeta only
          extract_lets +onlyGivenNames k3 ac3 jp2 out3 na3
          have J2 : ∀ u na out, HInv kf a.toList b.toList out.toList.reverse na nb2 → 1 ≤ na → (∀ z ∈ a.toList.take na, KLe kf z yb) → x + 2 + na + nb2 ≤ a.size + b.size → wpS (model prog w) A E s (jp2 u na out) (HS kf a.toList b.toList st fun na nb => x + 2 + na + nb ≤ a.size + b.size) st5 := by
            intro u na out v d1 hle d3
            have l3 : na ≤ a.size := la' ▸ v.nal
            unfold jp2
            refine wpS_bind (sort_elem hyb' ?_)
            extract_lets +onlyGivenNames out4
            have v4 : HInv kf a.toList b.toList out4.toList.reverse na nbx := by
              have := v.pushB hb (m := nbx) hnbx.symm hyb hle
              rwa [← List.reverse_concat, ← Array.toList_push] at this
            clear_value out4 ac3
            refine wpS_ifeq (fun c1 => wpS_pure (HS.fin hst5 (good2 _ _ _ v4 c1))) fun c1 => ?_
            refine get_at hSa (i := na - 1) (sub1_lt d1 l3) fun xa hxa' hxa sxa => wpS_bind (sort_elem hxa' ?_)
            refine wpS_bind (gallopL O hk5 hb hSb sxa ((Nat.zero_add _).symm ▸ Nat.le_of_lt l2) (sub1_lt (by clear g1 g2 hkn l1 l3 d1 d3; (first | lia | omega)) (Nat.le_refl _)) fun k2 hkn2 g3 g4 => ?_)
            dsimp -zeta only
            extract_lets +onlyGivenNames k4 bc4 na4 jp3 out5 nb5
            have hna4 : na4 + 1 = na := Nat.sub_add_cancel d1
            have J3 : ∀ u nb out, HInv kf a.toList b.toList out.toList.reverse na nb → 2 ≤ nb → (∀ z ∈ b.toList.take nb, KLe kf z xa) → x + 2 + na + nb ≤ a.size + b.size → wpS (model prog w) A E s (jp3 u nb out) (HS kf a.toList b.toList st fun na nb => x + 2 + na + nb ≤ a.size + b.size) st5 := by
              intro u nb out v d2 hle d3
              unfold jp3
              refine wpS_bind (sort_elem hxa' ?_)
              extract_lets +onlyGivenNames out6
              have v6 : HInv kf a.toList b.toList out6.toList.reverse na4 nb := by
                have := v.pushA ha (m := na - 1) (Nat.sub_add_cancel d1).symm hxa hle
                rwa [← List.reverse_concat, ← Array.toList_push] at this
              clear_value out6 na4 bc4
              refine wpS_ifeq (fun c2 => wpS_pure (HS.fin hst5 (good1 _ _ _ v6 (.inl c2)))) fun c2 => ?_
              have q : x + 2 + na4 + nb ≤ a.size + b.size := Nat.le_trans (Nat.add_le_add_right (Nat.add_le_add_left (hna4 ▸ Nat.le_succ _) _) _) d3
              exact wpS_ite (fun _ => wpS_pure (HQ.go hst5 v6 (Nat.pos_of_ne_zero c2) d2 q)) fun _ => wpS_pure (HI.go hst5 v6 (Nat.pos_of_ne_zero c2) d2 q)
            have hgt : ∀ z ∈ b.toList.take k2, KLe kf z xa := fun z hz => by
              obtain ⟨i, hi, hz'⟩ := mem_take_iff.mp hz
              exact KLe.of_lt (g3 i z (Nat.zero_le _) ((Nat.zero_add k2).symm ▸ hi) hz')
            have v5 : HInv kf a.toList b.toList out5.toList.reverse na nb5 := by
              show HInv kf a.toList b.toList (out4 ++ (b.extract k2 nbx).reverse).toList.reverse na k2
              rw [Array.toList_append, List.reverse_append, Array.toList_reverse, List.reverse_reverse, toList_ext3]
              refine v4.moveB hb hkn2 ?_ fun z hz y hy => ?_
              · exact take_cut hkn2
              · obtain ⟨i, hi, hi2⟩ := mem_take_iff.mp hz
                rw [List.getElem?_drop] at hi2
                obtain ⟨j, hj, hy'⟩ := mem_take_iff.mp hy
                exact (srt_at ha (Nat.le_sub_one_of_lt hj) hy' hxa).trans (g4 _ z ((Nat.zero_add k2).symm ▸ Nat.le_add_right _ _) ((Nat.zero_add nbx).symm ▸ cut_lt hkn2 hi) hi2)
            have hnb5 : nb5 = k2 := rfl
            have hk4 : k4 = nbx - k2 := rfl
            clear_value jp3 out5 nb5 bc4 k4
            refine wpS_ite (fun c3 => ?_) (fun c3 => ?_)
            · refine wpS_ifeq (fun c4 => wpS_pure (HS.fin hst5 (good2 _ _ _ v5 c4))) fun c4 => wpS_ifeq (fun c5 => wpS_pure (HS.fin hst5 (good1 _ _ _ v5 (.inr c5)))) fun c5 => ?_
              exact J3 _ _ _ v5 (two_le c5 c4) (hnb5 ▸ hgt) (by clear hk4 c3 c4 c5 g1 g2 g3 g4 l1 l2 l3 hna4 d1 c1 hkn; (first | lia | omega))
            · have hke : k2 = nbx := sub_zero hk4 c3 hkn2
              exact J3 _ _ _ v4 (by clear hk4 c3 g1 g2 g3 g4 l1 l2 l3 hna4 d1 d3 hkn; (first | lia | omega)) (hke ▸ hgt) (Nat.le_trans (Nat.add_le_add_left (hnbx ▸ Nat.le_succ _) _) d3)
          have hgt : ∀ z ∈ a.toList.take k, KLe kf z yb := fun z hz => by
            obtain ⟨i, hi, hz'⟩ := mem_take_iff.mp hz
            exact g1 i z (Nat.zero_le _) ((Nat.zero_add k).symm ▸ hi) hz'
          have v3 : HInv kf a.toList b.toList out3.toList.reverse na3 nb2 := by
            show HInv kf a.toList b.toList (out2 ++ (a.extract k na2).reverse).toList.reverse k nb2
            rw [Array.toList_append, List.reverse_append, Array.toList_reverse, List.reverse_reverse, toList_ext3]
            refine v2.moveA ha hkn ?_ fun z hz y hy => ?_
            · exact take_cut hkn
            · obtain ⟨i, hi, hi2⟩ := mem_take_iff.mp hz
              rw [List.getElem?_drop] at hi2
              obtain ⟨j, hj, hy'⟩ := mem_take_iff.mp hy
              exact (srt_at hb (Nat.le_of_lt_succ (Nat.lt_of_lt_of_eq hj hnbx.symm)) hy' hyb).trans (KLe.of_lt (g2 _ z ((Nat.zero_add k).symm ▸ Nat.le_add_right _ _) ((Nat.zero_add na2).symm ▸ cut_lt hkn hi) hi2))
          have hna3 : na3 = k := rfl
          have hk3 : k3 = na2 - k := rfl
          clear_value jp2 out3 na3 ac3 k3
          refine wpS_ite (fun c3 => wpS_ifeq (fun c4 => wpS_pure (HS.fin hst5 (good1 _ _ _ v3 (.inl c4)))) fun c4 => ?_) (fun c3 => ?_)
          · exact J2 _ _ _ v3 (Nat.pos_of_ne_zero c4) (hna3 ▸ hgt) (Nat.le_trans (Nat.add_le_add_right (Nat.add_le_add_left (hna3 ▸ hkn) _) _) d3)
          · have hke : k = na2 := sub_zero hk3 c3 hkn
            exact J2 _ _ _ v2 d1 (hke ▸ hgt) d3
        clear_value jp1
        exact wpS_ite (fun _ => J1 _ _ _ hst3) fun _ => J1 _ _ _ hst3
end
end Mine
end
section
open PySem PySem.W PyProof.Rows
set_option maxRecDepth 100000
namespace Mine
def Kd (kf : Keyed → El) (arr : Array Keyed) (i : Nat) : El := match arr[i]? with
  | some p => kf p
  | none => []
def ELe (x y : El) : Prop := lexLt y x = false
theorem ELe.refl (x : El) : ELe x x := lex_irrefl _
theorem ELe.trans {x y z : El} (h : ELe x y) (h' : ELe y z) : ELe x z := Ge.trans (x := z) (y := y) (z := x) h' h
theorem ELe.of_lt {x y : El} (h : lexLt x y = true) : ELe x y := lex_asymm h
theorem ELe.lt_le {x y z : El} (h : lexLt x y = true) (h' : ELe y z) : lexLt x z = true := by
  cases e : lexLt x z with
  | true => rfl
  | false => have := ELe.trans h' (show ELe z x from e); rw [show lexLt x y = false from this] at h; cases h
theorem ELe.anti {x y : El} (h : ELe x y) (h' : ELe y x) : x = y := lex_total h' h
/-- sorted from a place on -/
def SrtK (kf : Keyed → El) (arr : Array Keyed) (lo n : Nat) : Prop := ∀ i j, lo ≤ i → i ≤ j → j < lo + n → ELe (Kd kf arr i) (Kd kf arr j)
def DecK (kf : Keyed → El) (arr : Array Keyed) (lo n : Nat) : Prop := ∀ i j, lo ≤ i → i ≤ j → j < lo + n → ELe (Kd kf arr j) (Kd kf arr i)
structure SB (κ : SortKind) (a₀ : Array Keyed) (lo : Nat) (pre : List Keyed) (pend : Array (Nat × Nat × Nat)) (st : SortSt) : Prop where
  perm : (arrOf st).Perm a₀
  kind : kindOf st = κ
  failed : failedOf st = none
  pend : pendingOf st = pend
  pre : (arrOf st).toList.take lo = pre
theorem Kd_congr {kf : Keyed → El} {xs ys : Array Keyed} {i j : Nat} (h : xs[i]? = ys[j]?) : Kd kf xs i = Kd kf ys j := by unfold Kd; rw [h]
theorem Kd_bubble {kf : Keyed → El} {xs : Array Keyed} {src d : Nat} (hs : src < xs.size) (hd : d ≤ src) (k : Nat) :
    Kd kf (bubble xs src d) k = if k = src - d then Kd kf xs src else if src - d < k ∧ k ≤ src then Kd kf xs (k - 1) else Kd kf xs k := by
  have e := getElem?_bubble hs d hd k
  by_cases h1 : k = src - d
  · rw [if_pos h1] at e ⊢; exact Kd_congr e
  · rw [if_neg h1] at e ⊢
    by_cases h2 : src - d < k ∧ k ≤ src
    · rw [if_pos h2] at e ⊢; exact Kd_congr e
    · rw [if_neg h2] at e ⊢; exact Kd_congr e
theorem Kd_mirror {kf : Keyed → El} {xs : Array Keyed} {i j : Nat} (hj : j ≤ xs.size) (k : Nat) :
    Kd kf (mirror xs i j ((j - i) / 2)) k = if i ≤ k ∧ k < j then Kd kf xs (i + j - 1 - k) else Kd kf xs k := by
  have e := getElem?_mirror_all (i := i) hj k
  by_cases h1 : i ≤ k ∧ k < j
  · rw [if_pos h1] at e ⊢; exact Kd_congr e
  · rw [if_neg h1] at e ⊢; exact Kd_congr e
theorem Kd_mirror_eq {kf : Keyed → El} {xs : Array Keyed} {i j : Nat} (hj : j ≤ xs.size) (heq : ∀ k, i ≤ k → k < j → Kd kf xs k = Kd kf xs (j - 1)) (k : Nat) :
    Kd kf (mirror xs i j ((j - i) / 2)) k = Kd kf xs k := by
  rw [Kd_mirror hj]
  split
  · rw [heq _ (by (first | lia | omega)) (by (first | lia | omega)), heq k (by (first | lia | omega)) (by (first | lia | omega))]
  · rfl
theorem take_keep {xs ys : Array Keyed} {lo : Nat} (h : ∀ i, i < lo → ys[i]? = xs[i]?) : ys.toList.take lo = xs.toList.take lo := by
  apply List.ext_getElem?
  intro i
  rw [List.getElem?_take, List.getElem?_take]
  split
  · rename_i hi
    have := h i hi
    rwa [arr_get, arr_get] at this
  · rfl
section
variable {κ : SortKind} {kf : Keyed → El} {S : Keyed → Prop} {prog : Program} {w : World} {A : Around} {s : Shared} {E : Value → Shared → Prop} {a₀ : Array Keyed} {lo : Nat} {pre : List Keyed} {pend : Array (Nat × Nat × Nat)} {st : SortSt}
theorem SB.size (h : SB κ a₀ lo pre pend st) : (arrOf st).size = a₀.size := h.perm.size_eq
theorem SB.setArr (h : SB κ a₀ lo pre pend st) {xs : Array Keyed} (hp : xs.Perm (arrOf st)) (hk : ∀ i, i < lo → xs[i]? = (arrOf st)[i]?) : SB κ a₀ lo pre pend (setArr st xs) :=
  ⟨hp.trans h.perm, h.kind, h.failed, h.pend, (take_keep hk).trans h.pre⟩
theorem SB.at (h : SB κ a₀ lo pre pend st) (h0 : ∀ x ∈ a₀.toList, S x) {i : Nat} (hi : i < a₀.size) : ∃ x, (arrOf st)[i]? = some x ∧ S x ∧ Kd kf (arrOf st) i = kf x := by
  have hi' : i < (arrOf st).size := by rw [h.size]; exact hi
  have e : (arrOf st)[i]? = some (arrOf st)[i] := getElem?_pos _ i hi'
  refine ⟨(arrOf st)[i], e, h0 _ ((Array.perm_iff_toList_perm.mp h.perm).mem_iff.mp (by simp)), ?_⟩
  unfold Kd; rw [e]
theorem sort_ltAt (O : SOrd κ kf S prog w A s) (h0 : ∀ x ∈ a₀.toList, S x) (hB : SB κ a₀ lo pre pend st) {i j : Nat} {Q : Option Bool → SortSt → Prop} (hi : i < a₀.size) (hj : j < a₀.size) (h : Q (some (lexLt (Kd kf (arrOf st) i) (Kd kf (arrOf st) j))) st) :
    wpS (model prog w) A E s (ltAt' i j) Q st := by
  obtain ⟨x, hx, sx, kx⟩ := hB.at (kf := kf) h0 hi
  obtain ⟨y, hy, sy, ky⟩ := hB.at (kf := kf) h0 hj
  rw [kx, ky] at h
  rw [ltAt'_eq]
  refine wpS_bind (wpS_get ?_)
  refine wpS_bind (sort_elem hx ?_)
  refine wpS_bind (sort_elem hy ?_)
  exact sort_lt O hB.kind sx sy h

theorem sort_binary (O : SOrd κ kf S prog w A s) (h0 : ∀ x ∈ a₀.toList, S x) {n ok : Nat} {Q : Bool → SortSt → Prop} (hn : lo + n ≤ a₀.size) (hok : ok ≤ n) (hB : SB κ a₀ lo pre pend st) (hs : SrtK kf (arrOf st) lo ok)
    (h : ∀ st', SB κ a₀ lo pre pend st' → SrtK kf (arrOf st') lo n → Q true st') : wpS (model prog w) A E s (binarySort' lo n ok) Q st := by
  rw [binarySort'_eq]
  refine wpS_bind (wpS_mono (wpS_forRange (I := fun k c st' => c = (none, ()) ∧ SB κ a₀ lo pre pend st' ∧ SrtK kf (arrOf st') lo (min k n))
    (Q := fun c st' => c = (none, ()) ∧ SB κ a₀ lo pre pend st' ∧ SrtK kf (arrOf st') lo n) ?step ?fin ?init) ?post)
  case post =>
    rintro c st' ⟨rfl, hB', hs'⟩
    exact wpS_pure (h st' hB' hs')
  case init =>
    refine ⟨rfl, hB, fun i j hi hij hj => ?_⟩
    by_cases h1 : ok = 0
    · have : i = j := by (first | lia | omega)
      subst this; exact ELe.refl _
    · exact hs i j hi hij (by (first | lia | omega))
  case fin =>
    rintro c st' ⟨hc, hB', hs'⟩
    refine ⟨hc, hB', ?_⟩
    rwa [show min (max (max ok 1) n) n = n by (first | lia | omega)] at hs'
  case step =>
    rintro k c st' hak hkn ⟨rfl, hB', hs'⟩
    rw [show min k n = k by (first | lia | omega)] at hs'
    refine wpS_bind (wpS_mono (wpS_forRange (I := fun x c st'' => st'' = st' ∧ ∃ l r, c = (none, l, r) ∧ l ≤ r ∧ r ≤ k ∧ r - l ≤ k - x ∧
        (∀ i, i < l → ELe (Kd kf (arrOf st') (lo + i)) (Kd kf (arrOf st') (lo + k))) ∧ (∀ i, r ≤ i → i < k → lexLt (Kd kf (arrOf st') (lo + k)) (Kd kf (arrOf st') (lo + i)) = true))
      (Q := fun c st'' => st'' = st' ∧ ∃ l r, c = (none, l, r) ∧ l ≤ k ∧
        (∀ i, i < l → ELe (Kd kf (arrOf st') (lo + i)) (Kd kf (arrOf st') (lo + k))) ∧ (∀ i, l ≤ i → i < k → lexLt (Kd kf (arrOf st') (lo + k)) (Kd kf (arrOf st') (lo + i)) = true)) ?istep ?ifin ?iinit) ?ipost)
    case iinit => exact ⟨rfl, 0, k, rfl, by (first | lia | omega), by (first | lia | omega), by (first | lia | omega), fun i hi => by (first | lia | omega), fun i h1 h2 => by (first | lia | omega)⟩
    case ifin =>
      rintro c st'' ⟨rfl, l, r, rfl, hlr, hrk, hm, hlo, hhi⟩
      have : l = r := by (first | lia | omega)
      subst this
      exact ⟨rfl, l, l, rfl, hrk, hlo, hhi⟩
    case istep =>
      rintro x c st'' _ hxk ⟨rfl, l, r, rfl, hlr, hrk, hm, hlo, hhi⟩
      dsimp only
      by_cases hge : l ≥ r
      · rw [if_pos hge]
        have : l = r := by (first | lia | omega)
        subst this
        exact wpS_pure ⟨rfl, l, l, rfl, hrk, hlo, hhi⟩
      · rw [if_neg hge]
        refine wpS_bind (sort_ltAt O h0 hB' (by (first | lia | omega)) (by (first | lia | omega)) ?_)
        cases hless : lexLt (Kd kf (arrOf st'') (lo + k)) (Kd kf (arrOf st'') (lo + (l + r) / 2)) with
        | true =>
          refine wpS_pure ⟨rfl, l, (l + r) / 2, rfl, by (first | lia | omega), by (first | lia | omega), by (first | lia | omega), hlo, fun i h1 h2 => ?_⟩
          exact ELe.lt_le hless (hs' _ _ (by (first | lia | omega)) (by (first | lia | omega)) (by (first | lia | omega)))
        | false =>
          refine wpS_pure ⟨rfl, (l + r) / 2 + 1, r, rfl, by (first | lia | omega), by (first | lia | omega), by (first | lia | omega), fun i h1 => ?_, hhi⟩
          exact ELe.trans (hs' (lo + i) (lo + (l + r) / 2) (by (first | lia | omega)) (by (first | lia | omega)) (by (first | lia | omega))) hless
    case ipost =>
      rintro c st'' ⟨rfl, l, r, rfl, hlk, hlo, hhi⟩
      have hks : lo + k < (arrOf st'').size := by rw [hB'.size]; (first | lia | omega)
      refine wpS_bind (wpS_modify (wpS_pure ⟨rfl, hB'.setArr (bubble_perm _ _ _) fun i hi => ?_, ?_⟩))
      · show (bubble (arrOf st'') (lo + k) (lo + k - (lo + l)))[i]? = _
        rw [getElem?_bubble hks _ (by (first | lia | omega)), if_neg (by (first | lia | omega)), if_neg (by (first | lia | omega))]
      rw [show min (k + 1) n = k + 1 by (first | lia | omega)]
      intro i j hi hij hj
      show ELe (Kd kf (bubble (arrOf st'') (lo + k) (lo + k - (lo + l))) i) (Kd kf (bubble (arrOf st'') (lo + k) (lo + k - (lo + l))) j)
      have hlo' : ∀ i, lo ≤ i → i < lo + l → ELe (Kd kf (arrOf st'') i) (Kd kf (arrOf st'') (lo + k)) := fun i h1 h2 => by
        have := hlo (i - lo) (by (first | lia | omega)); rwa [show lo + (i - lo) = i by (first | lia | omega)] at this
      have hhi' : ∀ i, lo + l ≤ i → i < lo + k → ELe (Kd kf (arrOf st'') (lo + k)) (Kd kf (arrOf st'') i) := fun i h1 h2 => by
        have := hhi (i - lo) (by (first | lia | omega)) (by (first | lia | omega)); rw [show lo + (i - lo) = i by (first | lia | omega)] at this; exact ELe.of_lt this
      rw [Kd_bubble hks (by (first | lia | omega)), Kd_bubble hks (by (first | lia | omega)), show lo + k - (lo + k - (lo + l)) = lo + l by (first | lia | omega)]
      repeat' split
      all_goals first
        | (exfalso; (first | lia | omega))
        | exact ELe.refl _
        | exact hlo' _ (by (first | lia | omega)) (by (first | lia | omega))
        | exact hhi' _ (by (first | lia | omega)) (by (first | lia | omega))
        | exact hs' _ _ (by (first | lia | omega)) (by (first | lia | omega)) (by (first | lia | omega))
end
end Mine
end
section
open PySem PySem.W PyProof.Rows
set_option maxRecDepth 100000
namespace Mine
section
variable {κ : SortKind} {kf : Keyed → El} {S : Keyed → Prop} {prog : Program} {w : World} {A : Around} {s : Shared} {E : Value → Shared → Prop} {a₀ : Array Keyed} {lo : Nat} {pre : List Keyed} {pend : Array (Nat × Nat × Nat)} {st : SortSt}
theorem srt_snoc {xs : Array Keyed} {n : Nat} (hs : SrtK kf xs lo n) (h1 : 1 ≤ n) (h : ELe (Kd kf xs (lo + n - 1)) (Kd kf xs (lo + n))) : SrtK kf xs lo (n + 1) := fun i j hi hij hj => by
  by_cases c : j < lo + n
  · exact hs i j hi hij c
  · obtain rfl : j = lo + n := by (first | lia | omega)
    by_cases c2 : i = lo + n
    · subst c2; exact ELe.refl _
    · exact (hs i (lo + n - 1) hi (by (first | lia | omega)) (by (first | lia | omega))).trans h
theorem dec_snoc {xs : Array Keyed} {n : Nat} (hs : DecK kf xs lo n) (h1 : 1 ≤ n) (h : ELe (Kd kf xs (lo + n)) (Kd kf xs (lo + n - 1))) : DecK kf xs lo (n + 1) := fun i j hi hij hj => by
  by_cases c : j < lo + n
  · exact hs i j hi hij c
  · obtain rfl : j = lo + n := by (first | lia | omega)
    by_cases c2 : i = lo + n
    · subst c2; exact ELe.refl _
    · exact h.trans (hs i (lo + n - 1) hi (by (first | lia | omega)) (by (first | lia | omega)))
theorem asc_loop {a nrem : Nat} {f : Nat → Option (Option Nat) × Nat → StateT SortSt Sem (ForInStep (Option (Option Nat) × Nat))}
    (hf : ∀ x n (Q' : ForInStep (Option (Option Nat) × Nat) → SortSt → Prop), 1 ≤ n → n < nrem → Q' (if lexLt (Kd kf (arrOf st) (lo + n)) (Kd kf (arrOf st) (lo + n - 1)) = true then .done (none, n) else .yield (none, n + 1)) st → wpS (model prog w) A E s (f x (none, n)) Q' st)
    (ha : 1 ≤ a) (han : a ≤ nrem) (hs : SrtK kf (arrOf st) lo a) :
    wpS (model prog w) A E s (forIn [a:nrem] ((none, a) : Option (Option Nat) × Nat) f) (fun c st' => st' = st ∧ ∃ n, c = (none, n) ∧ a ≤ n ∧ n ≤ nrem ∧ SrtK kf (arrOf st) lo n ∧ (n = nrem ∨ lexLt (Kd kf (arrOf st) (lo + n)) (Kd kf (arrOf st) (lo + n - 1)) = true)) st := by
  refine wpS_forRange (I := fun x c st' => st' = st ∧ c = (none, x) ∧ SrtK kf (arrOf st) lo x) ?_ ?_ ⟨rfl, rfl, hs⟩
  · rintro x c st' hax hxn ⟨rfl, rfl, hs'⟩
    refine hf x x _ (by (first | lia | omega)) hxn ?_
    cases hless : lexLt (Kd kf (arrOf st') (lo + x)) (Kd kf (arrOf st') (lo + x - 1)) with
    | true => exact ⟨rfl, x, rfl, hax, by (first | lia | omega), hs', .inr hless⟩
    | false => exact ⟨rfl, rfl, srt_snoc hs' (by (first | lia | omega)) hless⟩
  · rintro c st' ⟨rfl, rfl, hs'⟩
    rw [show max a nrem = nrem by (first | lia | omega)] at hs' ⊢
    exact ⟨rfl, nrem, rfl, han, Nat.le_refl _, hs', .inl rfl⟩

theorem sort_reverse {i j : Nat} {Q : Unit → SortSt → Prop} (h : Q () (setArr st (mirror (arrOf st) i j ((j - i) / 2)))) : wpS (model prog w) A E s (reverseSlice' i j) Q st := by
  rw [reverseSlice'_eq]; exact wpS_modify h

theorem SB.flip (hB : SB κ a₀ lo pre pend st) {i j : Nat} (hi : lo ≤ i) (hj : j ≤ a₀.size) : SB κ a₀ lo pre pend (PyProof.Rows.setArr st (PyProof.Rows.mirror (arrOf st) i j ((j - i) / 2))) :=
  hB.setArr (mirror_perm _ _ _ _) fun k hk => by rw [getElem?_mirror_all (by rw [hB.size]; exact hj), if_neg (by (first | lia | omega))]

theorem sort_count (O : SOrd κ kf S prog w A s) (h0 : ∀ x ∈ a₀.toList, S x) {nrem : Nat} {Q : Option Nat → SortSt → Prop} (hn : lo + nrem ≤ a₀.size) (h1 : 1 ≤ nrem) (hB : SB κ a₀ lo pre pend st)
    (h : ∀ m st', SB κ a₀ lo pre pend st' → 1 ≤ m → m ≤ nrem → SrtK kf (arrOf st') lo m → Q (some m) st') : wpS (model prog w) A E s (countRun' lo nrem) Q st := by
  unfold countRun'
  refine wpS_bind (wpS_mono (asc_loop (kf := kf) (lo := lo) (st := st) ?_ (Nat.le_refl 1) h1 (fun i j hi hij hj => by
    obtain rfl : i = j := by (first | lia | omega)
    exact ELe.refl _)) ?_)
  · intro x n Q' hn1 hnn hq
    refine wpS_bind (sort_ltAt O h0 hB (by (first | lia | omega)) (by (first | lia | omega)) ?_)
    cases e : lexLt (Kd kf (arrOf st) (lo + n)) (Kd kf (arrOf st) (lo + n - 1)) with
    | true => rw [e] at hq; exact wpS_pure hq
    | false => rw [e] at hq; exact wpS_pure hq
  rintro c st' ⟨rfl, n, rfl, hn1, hn2, hsn, hor⟩
  dsimp -zeta only
  extract_lets +onlyGivenNames r0 n0
  have en : n0 = n := rfl
  clear_value n0
  subst en
  show wpS (model prog w) A E s (if (n0 == nrem) = true then pure (some n0) else _) Q st'
  by_cases hnn : n0 = nrem
  · rw [if_pos (by simpa using hnn)]
    exact wpS_pure (h n0 st' hB hn1 hn2 hsn)
  rw [if_neg (by simpa using hnn)]
  have hlt := hor.resolve_left hnn
  extract_lets +onlyGivenNames m1 z0 jp
  have J : ∀ u st2, SB κ a₀ lo pre pend st2 → DecK kf (arrOf st2) lo (n0 + 1) → wpS (model prog w) A E s (jp u) Q st2 := by
    intro u st2 hB2 hd2
    have hm1 : m1 = n0 + 1 := rfl
    have hz0 : z0 = 0 := rfl
    unfold jp
    clear_value m1 z0
    rw [← hm1] at hd2
    refine wpS_bind (wpS_lift (wpAny_rule ⟨rfl, ?_⟩))
    refine wpS_bind (wpS_mono (wpS_forRange (I := fun x c st' => ∃ neq, c = (none, x, neq) ∧ SB κ a₀ lo pre pend st' ∧ DecK kf (arrOf st') lo x ∧ neq + 1 ≤ x ∧ (∀ i, lo + x - (neq + 1) ≤ i → i < lo + x → Kd kf (arrOf st') i = Kd kf (arrOf st') (lo + x - 1)))
      (Q := fun c st' => ∃ m neq, c = (none, m, neq) ∧ 1 ≤ m ∧ m ≤ nrem ∧ SB κ a₀ lo pre pend st' ∧ DecK kf (arrOf st') lo m ∧ neq + 1 ≤ m ∧ (∀ i, lo + m - (neq + 1) ≤ i → i < lo + m → Kd kf (arrOf st') i = Kd kf (arrOf st') (lo + m - 1))) ?_ ?_ ⟨z0, rfl, hB2, hd2, by (first | lia | omega), fun i a b => by congr 1; (first | lia | omega)⟩) ?_)
    · rintro x c st3 hax hxn ⟨neq, rfl, hB3, hd3, hq3, he3⟩
      have sz3 : lo + x ≤ (arrOf st3).size := by rw [hB3.size]; (first | lia | omega)
      refine wpS_bind (sort_ltAt O h0 hB3 (by show lo + x < _; (first | lia | omega)) (by show lo + x - 1 < _; (first | lia | omega)) ?_)
      dsimp only
      cases hless : lexLt (Kd kf (arrOf st3) (lo + x)) (Kd kf (arrOf st3) (lo + x - 1)) with
      | true =>
        have step1 : ∀ xs : Array Keyed, (∀ k, Kd kf xs k = Kd kf (arrOf st3) k) → DecK kf xs lo (x + 1) := by
          intro xs hk i j hi hij hj
          rw [hk, hk]
          exact dec_snoc hd3 (by (first | lia | omega)) (ELe.of_lt hless) i j hi hij hj
        by_cases hneq : neq > 0
        · rw [if_pos rfl, if_pos hneq]
          refine wpS_bind (sort_reverse (wpS_pure ⟨0, by subst hz0; rfl, hB3.flip (by (first | lia | omega)) (by (first | lia | omega)), step1 _ (Kd_mirror_eq sz3 he3), by (first | lia | omega), fun i a b => by congr 1; (first | lia | omega)⟩))
        · rw [if_pos rfl, if_neg hneq]
          exact wpS_pure ⟨0, by subst hz0; rfl, hB3, step1 _ (fun _ => rfl), by (first | lia | omega), fun i a b => by congr 1; (first | lia | omega)⟩
      | false =>
        rw [if_neg (by simp)]
        refine wpS_bind (sort_ltAt O h0 hB3 (by show lo + x - 1 < _; (first | lia | omega)) (by show lo + x < _; (first | lia | omega)) ?_)
        dsimp only
        cases hlarger : lexLt (Kd kf (arrOf st3) (lo + x - 1)) (Kd kf (arrOf st3) (lo + x)) with
        | true => exact wpS_pure ⟨x, neq, rfl, by (first | lia | omega), by (first | lia | omega), hB3, hd3, hq3, he3⟩
        | false =>
          have heqx : Kd kf (arrOf st3) (lo + x) = Kd kf (arrOf st3) (lo + x - 1) := ELe.anti hlarger hless
          refine wpS_pure ⟨neq + 1, rfl, hB3, dec_snoc hd3 (by (first | lia | omega)) hlarger, by (first | lia | omega), fun i a b => ?_⟩
          rw [show lo + (x + 1) - 1 = lo + x by (first | lia | omega)]
          by_cases hix : i = lo + x
          · subst hix; rfl
          · rw [heqx]; exact he3 i (by (first | lia | omega)) (by (first | lia | omega))
    · rintro c st3 ⟨neq, rfl, hB3, hd3, hq3, he3⟩
      rw [show max m1 nrem = nrem by (first | lia | omega)] at *
      exact ⟨nrem, neq, rfl, h1, Nat.le_refl _, hB3, hd3, hq3, he3⟩
    · rintro c st3 ⟨m, neq, rfl, hm1', hm2, hB3, hd3, hq3, he3⟩
      have sz3 : lo + m ≤ (arrOf st3).size := by rw [hB3.size]; (first | lia | omega)
      extract_lets +onlyGivenNames r1 t1 m2 neq2
      have em : m2 = m := rfl
      have eq2 : neq2 = neq := rfl
      clear_value m2 neq2
      subst em eq2
      dsimp -zeta only [r1]
      extract_lets +onlyGivenNames jp3
      have J3 : ∀ u st4, SB κ a₀ lo pre pend st4 → DecK kf (arrOf st4) lo m2 → wpS (model prog w) A E s (jp3 u) Q st4 := by
        intro u st4 hB4 hd4
        have sz4 : lo + m2 ≤ (arrOf st4).size := by rw [hB4.size]; (first | lia | omega)
        unfold jp3
        refine wpS_bind (sort_reverse ?_)
        have hB5 := hB4.flip (i := lo) (j := lo + m2) (Nat.le_refl _) (by (first | lia | omega))
        have hs5 : SrtK kf (arrOf (setArr st4 (mirror (arrOf st4) lo (lo + m2) ((lo + m2 - lo) / 2)))) lo m2 := by
          intro i j hi hij hj
          show ELe (Kd kf (mirror (arrOf st4) lo (lo + m2) ((lo + m2 - lo) / 2)) i) (Kd kf (mirror (arrOf st4) lo (lo + m2) ((lo + m2 - lo) / 2)) j)
          rw [Kd_mirror sz4, Kd_mirror sz4, if_pos (by (first | lia | omega)), if_pos (by (first | lia | omega))]
          exact hd4 _ _ (by (first | lia | omega)) (by (first | lia | omega)) (by (first | lia | omega))
        refine wpS_bind (wpS_mono (asc_loop (kf := kf) (lo := lo) (st := setArr st4 (mirror (arrOf st4) lo (lo + m2) ((lo + m2 - lo) / 2))) ?_ hm1' hm2 hs5) ?_)
        · intro x n Q' hn1 hnn hq
          refine wpS_bind (sort_ltAt O h0 hB5 (by show lo + n < _; (first | lia | omega)) (by show lo + n - 1 < _; (first | lia | omega)) ?_)
          cases e : lexLt (Kd kf (arrOf (setArr st4 (mirror (arrOf st4) lo (lo + m2) ((lo + m2 - lo) / 2)))) (lo + n)) (Kd kf (arrOf (setArr st4 (mirror (arrOf st4) lo (lo + m2) ((lo + m2 - lo) / 2)))) (lo + n - 1)) with
          | true => rw [e] at hq; exact wpS_pure hq
          | false => rw [e] at hq; exact wpS_pure hq
        · rintro c st5 ⟨rfl, n, rfl, hn1, hn2, hsn, _⟩
          exact wpS_pure (h n _ hB5 (by (first | lia | omega)) hn2 hsn)
      clear_value jp3
      by_cases hneq : neq2 > 0
      · rw [if_pos hneq]
        refine wpS_bind (sort_reverse (J3 _ _ (hB3.flip (by (first | lia | omega)) (by (first | lia | omega))) fun i j hi hij hj => ?_))
        show ELe (Kd kf (mirror (arrOf st3) _ _ _) j) (Kd kf (mirror (arrOf st3) _ _ _) i)
        rw [Kd_mirror_eq sz3 he3, Kd_mirror_eq sz3 he3]
        exact hd3 i j hi hij hj
      · rw [if_neg hneq]
        exact J3 _ _ hB3 hd3
  clear_value jp
  by_cases hgt : n0 > 1
  · rw [if_pos hgt]
    refine wpS_bind (sort_ltAt O h0 hB (by (first | lia | omega)) (by (first | lia | omega)) ?_)
    cases hrose : lexLt (Kd kf (arrOf st') lo) (Kd kf (arrOf st') (lo + n0 - 1)) with
    | true => exact wpS_pure (h n0 st' hB hn1 hn2 hsn)
    | false =>
      have hsz : lo + n0 ≤ (arrOf st').size := by rw [hB.size]; (first | lia | omega)
      have hall : ∀ k, lo ≤ k → k < lo + n0 → Kd kf (arrOf st') k = Kd kf (arrOf st') (lo + n0 - 1) := by
        intro k hk1 hk2
        have a1 := hsn lo k (by (first | lia | omega)) (by (first | lia | omega)) hk2
        have a2 := hsn k (lo + n0 - 1) (by (first | lia | omega)) (by (first | lia | omega)) (by (first | lia | omega))
        exact ELe.anti a2 (ELe.trans hrose a1)
      refine wpS_bind (sort_reverse (J _ _ (hB.flip (by (first | lia | omega)) (by (first | lia | omega))) fun i j hi hij hj => ?_))
      show ELe (Kd kf (mirror (arrOf st') _ _ _) j) (Kd kf (mirror (arrOf st') _ _ _) i)
      rw [Kd_mirror_eq hsz hall, Kd_mirror_eq hsz hall]
      refine dec_snoc (n := n0) (fun i j hi hij hj => ?_) hn1 (ELe.of_lt hlt) i j hi hij hj
      rw [hall i (by (first | lia | omega)) (by (first | lia | omega)), hall j (by (first | lia | omega)) hj]; exact ELe.refl _
  · rw [if_neg hgt]
    refine J _ _ hB ?_
    refine dec_snoc (n := n0) (fun i j hi hij hj => ?_) hn1 (ELe.of_lt hlt)
    obtain rfl : i = j := by (first | lia | omega)
    exact ELe.refl _
end
end Mine
end
section
open PySem PySem.W PyProof.Rows
set_option maxRecDepth 100000
namespace Mine
theorem place_toList (off : Nat) : ∀ (l : List Keyed) (n : Nat) (a : Array Keyed), off + n + l.length ≤ a.size →
    ((l.zipIdx n).foldl (fun a (p, j) => a.setIfInBounds (off + j) p) a).toList = a.toList.take (off + n) ++ l ++ a.toList.drop (off + n + l.length)
  | [], n, a, h => by simp
  | x :: r, n, a, h => by
    rw [List.zipIdx_cons, List.foldl_cons]
    have hl : (x :: r).length = r.length + 1 := rfl
    rw [place_toList off r (n + 1) _ (by rw [Array.size_setIfInBounds]; (first | lia | omega)), Array.toList_setIfInBounds]
    have hlt : off + n < a.toList.length := by simp; (first | lia | omega)
    rw [show off + (n + 1) = off + n + 1 by (first | lia | omega), List.take_add_one, List.take_set_of_le (Nat.le_refl _), List.getElem?_set_self hlt, List.drop_set_of_lt (by (first | lia | omega)), hl, show off + n + 1 + r.length = off + n + (r.length + 1) by (first | lia | omega)]
    simp
section
variable {κ : SortKind} {kf : Keyed → El} {S : Keyed → Prop} {prog : Program} {w : World} {A : Around} {s : Shared} {E : Value → Shared → Prop}
theorem wpS_set {σ : Type} {M : Model} {st st' : σ} {Q : PUnit → σ → Prop} (h : Q ⟨⟩ st') : wpS M A E s (set st' : StateT σ Sem PUnit) Q st := by
  unfold wpS; rw [StateT.run_set]; exact wpAny_pure ⟨rfl, h⟩
def SegS (kf : Keyed → El) (l : List Keyed) (base n : Nat) : Prop := ∀ i j x y, base ≤ i → i ≤ j → j < base + n → l[i]? = some x → l[j]? = some y → KLe kf x y
theorem gallopRs (O : SOrd κ kf S prog w A s) {key : Keyed} {arr : Array Keyed} {base n hint : Nat} {st : SortSt} {Q : Option Nat → SortSt → Prop} (hk : kindOf st = κ) (hs : SegS kf arr.toList base n) (hS : ∀ x ∈ arr.toList, S x) (hkey : S key) (hn : base + n ≤ arr.size) (hh : hint < n)
    (h : ∀ k, k ≤ n → (∀ i x, base ≤ i → i < base + k → arr.toList[i]? = some x → KLe kf x key) → (∀ i x, base + k ≤ i → i < base + n → arr.toList[i]? = some x → lexLt (kf key) (kf x) = true) → Q (some k) st) :
    wpS (model prog w) A E s (gallopM false key arr base n hint) Q st := by
  have get : ∀ i, i < n → ∃ x, arr.toList[base + i]? = some x := fun i hi => ⟨_, List.getElem?_eq_getElem (by simp; (first | lia | omega))⟩
  refine sort_gallop O hk (fun i hi => ?_) hkey hh (fun i => !lexLt (kf key) (kf ((arr.toList[base + i]?).getD key))) (fun i x hi hx => ?_) (fun i j hij hj hb => ?_) (fun k hkn h1 h2 => ?_)
  · obtain ⟨x, hx⟩ := get i hi
    exact ⟨x, by rw [arr_get]; exact hx, hS x (List.mem_of_getElem? hx)⟩
  · rw [arr_get] at hx
    simp only [hx, Option.getD_some]; rfl
  · obtain ⟨x, hx⟩ := get i (by (first | lia | omega))
    obtain ⟨y, hy⟩ := get j hj
    simp only [hx, hy, Option.getD_some, Bool.not_eq_true'] at hb ⊢
    exact KLe.trans (kf := kf) (hs _ _ _ _ (by (first | lia | omega)) (by (first | lia | omega)) (by (first | lia | omega)) hx hy) hb
  · refine h k hkn (fun i x hi1 hi2 hx => ?_) (fun i x hi1 hi2 hx => ?_)
    · have := h1 (i - base) (by (first | lia | omega))
      rw [show base + (i - base) = i by (first | lia | omega), hx] at this
      simpa [KLe] using this
    · have := h2 (i - base) (by (first | lia | omega)) (by (first | lia | omega))
      rw [show base + (i - base) = i by (first | lia | omega), hx] at this
      simpa using this
theorem gallopLs (O : SOrd κ kf S prog w A s) {key : Keyed} {arr : Array Keyed} {base n hint : Nat} {st : SortSt} {Q : Option Nat → SortSt → Prop} (hk : kindOf st = κ) (hs : SegS kf arr.toList base n) (hS : ∀ x ∈ arr.toList, S x) (hkey : S key) (hn : base + n ≤ arr.size) (hh : hint < n)
    (h : ∀ k, k ≤ n → (∀ i x, base ≤ i → i < base + k → arr.toList[i]? = some x → lexLt (kf x) (kf key) = true) → (∀ i x, base + k ≤ i → i < base + n → arr.toList[i]? = some x → KLe kf key x) → Q (some k) st) :
    wpS (model prog w) A E s (gallopM true key arr base n hint) Q st := by
  have get : ∀ i, i < n → ∃ x, arr.toList[base + i]? = some x := fun i hi => ⟨_, List.getElem?_eq_getElem (by simp; (first | lia | omega))⟩
  refine sort_gallop O hk (fun i hi => ?_) hkey hh (fun i => lexLt (kf ((arr.toList[base + i]?).getD key)) (kf key)) (fun i x hi hx => ?_) (fun i j hij hj hb => ?_) (fun k hkn h1 h2 => ?_)
  · obtain ⟨x, hx⟩ := get i hi
    exact ⟨x, by rw [arr_get]; exact hx, hS x (List.mem_of_getElem? hx)⟩
  · rw [arr_get] at hx
    simp only [hx, Option.getD_some]; rfl
  · obtain ⟨x, hx⟩ := get i (by (first | lia | omega))
    obtain ⟨y, hy⟩ := get j hj
    simp only [hx, hy, Option.getD_some] at hb ⊢
    have hxy := hs _ _ _ _ (by (first | lia | omega)) (by (first | lia | omega)) (by (first | lia | omega)) hx hy
    cases e : lexLt (kf x) (kf key) with
    | true => rfl
    | false =>
      have : lexLt (kf y) (kf key) = false := KLe.trans (kf := kf) (x := key) (y := x) (z := y) e hxy
      rw [this] at hb; cases hb
  · refine h k hkn (fun i x hi1 hi2 hx => ?_) (fun i x hi1 hi2 hx => ?_)
    · have := h1 (i - base) (by (first | lia | omega))
      rw [show base + (i - base) = i by (first | lia | omega), hx] at this
      simpa using this
    · have := h2 (i - base) (by (first | lia | omega)) (by (first | lia | omega))
      rw [show base + (i - base) = i by (first | lia | omega), hx] at this
      simpa [KLe] using this

theorem seg_pairwise {l : List Keyed} {base n : Nat} (h : SegS kf l base n) {i k : Nat} (hi : base ≤ i) (hk : i + k ≤ base + n) : ((l.drop i).take k).Pairwise (KLe kf) := by
  rw [List.pairwise_iff_getElem]
  intro a b ha hb hab
  simp only [List.length_take, List.length_drop] at ha hb
  simp only [List.getElem_take, List.getElem_drop]
  exact h (i + a) (i + b) _ _ (by (first | lia | omega)) (by (first | lia | omega)) (by (first | lia | omega)) (List.getElem?_eq_getElem (by (first | lia | omega))) (List.getElem?_eq_getElem (by (first | lia | omega)))
theorem mem_seg {l : List Keyed} {i k : Nat} {x : Keyed} (h : x ∈ (l.drop i).take k) : ∃ j, i ≤ j ∧ j < i + k ∧ l[j]? = some x := by
  obtain ⟨j, hj, hx⟩ := mem_take_iff.mp h
  rw [List.getElem?_drop] at hx
  exact ⟨i + j, by (first | lia | omega), by (first | lia | omega), hx⟩

/-- two sorted stretches become one -/
theorem sort_mergeAt (O : SOrd κ kf S prog w A s) {st : SortSt} {n1 n2 pw : Nat} {Q : Bool → SortSt → Prop} (hk : kindOf st = κ) (hf : failedOf st = none) (hS : ∀ x ∈ (arrOf st).toList, S x) (h1 : 1 ≤ n1) (h2 : 1 ≤ n2) (hsz : (arrOf st).size = n1 + n2)
    (hp : pendingOf st = #[(0, n1, pw), (n1, n2, 0)]) (s1 : SegS kf (arrOf st).toList 0 n1) (s2 : SegS kf (arrOf st).toList n1 n2)
    (h : ∀ st', (arrOf st').toList.Perm (arrOf st).toList → failedOf st' = none → (pendingOf st').size ≤ 1 → (arrOf st').toList.Pairwise (KLe kf) → Q true st') : wpS (model prog w) A E s (mergeAt' 0) Q st := by
  rcases st with ⟨kind, a, pend, mg, failed⟩
  replace hk : kind = κ := hk
  replace hp : pend = #[(0, n1, pw), (n1, n2, 0)] := hp
  replace hf : failed = none := hf
  replace hS : ∀ x ∈ a.toList, S x := hS
  replace hsz : a.size = n1 + n2 := hsz
  replace s1 : SegS kf a.toList 0 n1 := s1
  replace s2 : SegS kf a.toList n1 n2 := s2
  replace h : ∀ st', (arrOf st').toList.Perm a.toList → failedOf st' = none → (pendingOf st').size ≤ 1 → (arrOf st').toList.Pairwise (KLe kf) → Q true st' := h
  subst hp hf
  have la : a.toList.length = n1 + n2 := by simpa using hsz
  have get : ∀ i, i < n1 + n2 → ∃ x, a.toList[i]? = some x ∧ S x := fun i hi => ⟨_, List.getElem?_eq_getElem (by (first | lia | omega)), hS _ (List.getElem_mem _)⟩
  unfold mergeAt'
  refine wpS_bind (wpS_get ?_)
  refine wpS_bind (wpS_set ?_)
  obtain ⟨yb, hyb, syb⟩ := get n1 (by (first | lia | omega))
  refine wpS_bind (sort_elem (by rw [arr_get]; exact hyb) ?_)
  refine wpS_bind (gallopRs (arr := a) O hk s1 hS syb (by (first | lia | omega)) (by (first | lia | omega)) fun k hkn g1 g2 => ?_)
  dsimp -zeta only
  have whole : ∀ l : List Keyed, (∀ i j x y, i < j → l[i]? = some x → l[j]? = some y → KLe kf x y) → l.Pairwise (KLe kf) := fun l hl => by
    rw [List.pairwise_iff_getElem]
    intro i j hi hj hij
    exact hl i j _ _ hij (List.getElem?_eq_getElem hi) (List.getElem?_eq_getElem hj)
  have pd : ((#[(0, n1, pw), (n1, n2, 0)] : Array (Nat × Nat × Nat)).setIfInBounds 0 (0, n1 + n2, pw)).eraseIdxIfInBounds (0 + 1) = #[(0, n1 + n2, pw)] := by
    simp [Array.eraseIdxIfInBounds]
  rw [pd]
  by_cases c1 : (n1 - k == 0) = true
  · rw [if_pos c1]
    have c1' : n1 - k = 0 := by simpa using c1
    refine wpS_pure (h _ (.refl _) rfl (Nat.le_refl 1) (whole _ fun i j x y hij hx hy => ?_))
    replace hx : a.toList[i]? = some x := hx
    replace hy : a.toList[j]? = some y := hy
    have hj := (List.getElem?_eq_some_iff.mp hy).1
    by_cases c2 : j < n1
    · exact s1 i j x y (by (first | lia | omega)) (by (first | lia | omega)) (by (first | lia | omega)) hx hy
    · by_cases c3 : i < n1
      · exact (g1 i x (by (first | lia | omega)) (by (first | lia | omega)) hx).trans (s2 n1 j yb y (by (first | lia | omega)) (by (first | lia | omega)) (by (first | lia | omega)) hyb hy)
      · exact s2 i j x y (by (first | lia | omega)) (by (first | lia | omega)) (by (first | lia | omega)) hx hy
  rw [if_neg c1]
  have c1' : n1 - k ≠ 0 := by simpa using c1
  obtain ⟨xa, hxa, sxa⟩ := get (n1 - 1) (by (first | lia | omega))
  refine wpS_bind (sort_elem (x := xa) (by rw [show 0 + k + (n1 - k) - 1 = n1 - 1 by (first | lia | omega), arr_get]; exact hxa) ?_)
  refine wpS_bind (gallopLs (arr := a) O hk s2 hS sxa (by (first | lia | omega)) (by (first | lia | omega)) fun k2 hkn2 g3 g4 => ?_)
  dsimp -zeta only
  by_cases c2 : (k2 == 0) = true
  · rw [if_pos c2]
    have c2' : k2 = 0 := by simpa using c2
    refine wpS_pure (h _ (.refl _) rfl (Nat.le_refl 1) (whole _ fun i j x y hij hx hy => ?_))
    replace hx : a.toList[i]? = some x := hx
    replace hy : a.toList[j]? = some y := hy
    have hj := (List.getElem?_eq_some_iff.mp hy).1
    by_cases c2 : j < n1
    · exact s1 i j x y (by (first | lia | omega)) (by (first | lia | omega)) (by (first | lia | omega)) hx hy
    · by_cases c3 : i < n1
      · exact (s1 i (n1 - 1) x xa (by (first | lia | omega)) (by (first | lia | omega)) (by (first | lia | omega)) hx hxa).trans (g4 j y (by (first | lia | omega)) (by (first | lia | omega)) hy)
      · exact s2 i j x y (by (first | lia | omega)) (by (first | lia | omega)) (by (first | lia | omega)) hx hy
  rw [if_neg c2]
  have c2' : k2 ≠ 0 := by simpa using c2
  extract_lets +onlyGivenNames x y jp
  have ex : x.toList = (a.toList.drop k).take (n1 - k) := by
    show (a.extract (0 + k) n1).toList = _
    rw [toList_ext3, Nat.zero_add]
  have ey : y.toList = (a.toList.drop n1).take k2 := by
    show (a.extract n1 (n1 + k2)).toList = _
    rw [toList_ext2]
  have xl : x.size = n1 - k := by rw [← Array.length_toList, ex]; simp; (first | lia | omega)
  have yl : y.size = k2 := by rw [← Array.length_toList, ey]; simp; (first | lia | omega)
  have split : a.toList = a.toList.take k ++ (x.toList ++ (y.toList ++ a.toList.drop (n1 + k2))) := by
    rw [ex, ey]
    have e1 : (a.toList.drop n1) = (a.toList.drop n1).take k2 ++ a.toList.drop (n1 + k2) := by
      rw [← List.drop_drop]; exact (List.take_append_drop _ _).symm
    have e2 : a.toList.drop k = (a.toList.drop k).take (n1 - k) ++ a.toList.drop n1 := by
      have : a.toList.drop n1 = (a.toList.drop k).drop (n1 - k) := by rw [List.drop_drop, show k + (n1 - k) = n1 by (first | lia | omega)]
      rw [this]; exact (List.take_append_drop _ _).symm
    rw [← e1, ← e2]; exact (List.take_append_drop _ _).symm
  have tx : ∀ z ∈ a.toList.take k, ∃ i, i < k ∧ a.toList[i]? = some z := fun z hz => mem_take_iff.mp hz
  have mx : ∀ z ∈ x.toList, ∃ i, k ≤ i ∧ i < n1 ∧ a.toList[i]? = some z := fun z hz => by
    rw [ex] at hz
    obtain ⟨j, j1, j2, j3⟩ := mem_seg hz
    exact ⟨j, j1, by (first | lia | omega), j3⟩
  have my : ∀ z ∈ y.toList, ∃ i, n1 ≤ i ∧ i < n1 + k2 ∧ a.toList[i]? = some z := fun z hz => by
    rw [ey] at hz
    exact mem_seg hz
  have md : ∀ z ∈ a.toList.drop (n1 + k2), ∃ i, n1 + k2 ≤ i ∧ i < n1 + n2 ∧ a.toList[i]? = some z := fun z hz => by
    obtain ⟨i, hi, hz⟩ := mem_drop_iff.mp hz
    have := (List.getElem?_eq_some_iff.mp hz).1
    exact ⟨i, hi, by (first | lia | omega), hz⟩
  have J : ∀ (merged : Array Keyed) st', SameSt (SortSt.mk' kind a #[(0, n1 + n2, pw)] mg none) st' → MGood kf x.toList y.toList merged.toList → wpS (model prog w) A E s (jp merged) Q st' := by
    intro merged st' hst hg
    unfold jp
    obtain ⟨z1, z2, z3, z4⟩ := hst
    rcases st' with ⟨kind', a', pend', mg', failed'⟩
    obtain rfl : a' = a := z2
    obtain rfl : pend' = #[(0, n1 + n2, pw)] := z3
    obtain rfl : failed' = none := z4
    refine wpS_bind (wpS_modify ?_)
    refine wpS_bind (wpS_get ?_)
    have ml : merged.toList.length = n1 - k + k2 := by
      rw [hg.1.length_eq]; simp [xl, yl]
    have place := (place_toList (0 + k) merged.toList 0 a' (by (first | lia | omega))).trans (show a'.toList.take (0 + k + 0) ++ merged.toList ++ a'.toList.drop (0 + k + 0 + merged.toList.length) = a'.toList.take k ++ merged.toList ++ a'.toList.drop (n1 + k2) from by
      rw [ml, show 0 + k + 0 = k by (first | lia | omega), show k + (n1 - k + k2) = n1 + k2 by (first | lia | omega)])
    refine wpS_pure (h _ ?_ rfl (Nat.le_refl 1) ?_)
    · show (List.foldl _ a' (merged.toList.zipIdx)).toList.Perm a'.toList
      refine List.Perm.trans (List.Perm.of_eq place) ?_
      refine List.Perm.trans ?_ (List.Perm.of_eq split.symm)
      rw [List.append_assoc]
      refine List.Perm.append_left _ ?_
      rw [← List.append_assoc]
      exact hg.1.append_right _
    · show (List.foldl _ a' (merged.toList.zipIdx)).toList.Pairwise (KLe kf)
      refine Eq.mpr (congrArg (List.Pairwise (KLe kf)) place) ?_
      have mm : ∀ z ∈ merged.toList, z ∈ x.toList ∨ z ∈ y.toList := fun z hz => List.mem_append.mp (hg.1.mem_iff.mp hz)
      rw [List.pairwise_append, List.pairwise_append]
      refine ⟨⟨?_, hg.2, fun u hu v hv => ?_⟩, ?_, fun u hu v hv => ?_⟩
      · have := seg_pairwise s1 (i := 0) (k := k) (Nat.le_refl _) (by (first | lia | omega))
        rwa [List.drop_zero] at this
      · obtain ⟨i, i1, i2⟩ := tx u hu
        rcases mm v hv with q | q
        · obtain ⟨j, j1, j2, j3⟩ := mx v q
          exact s1 i j u v (by (first | lia | omega)) (by (first | lia | omega)) (by (first | lia | omega)) i2 j3
        · obtain ⟨j, j1, j2, j3⟩ := my v q
          exact (g1 i u (by (first | lia | omega)) (by (first | lia | omega)) i2).trans (s2 n1 j yb v (by (first | lia | omega)) (by (first | lia | omega)) (by (first | lia | omega)) hyb j3)
      · have := seg_pairwise s2 (i := n1 + k2) (k := n2 - k2) (by (first | lia | omega)) (by (first | lia | omega))
        rwa [List.take_of_length_le (by simp; (first | lia | omega))] at this
      · obtain ⟨j, j1, j2, j3⟩ := md v hv
        have high : ∀ i u, i < n1 → a'.toList[i]? = some u → KLe kf u v := fun i u hi hu => (s1 i (n1 - 1) u xa (by (first | lia | omega)) (by (first | lia | omega)) (by (first | lia | omega)) hu hxa).trans (g4 j v (by (first | lia | omega)) (by (first | lia | omega)) j3)
        rcases List.mem_append.mp hu with q | q
        · obtain ⟨i, i1, i2⟩ := tx u q
          exact high i u (by (first | lia | omega)) i2
        · rcases mm u q with q | q
          · obtain ⟨i, i1, i2, i3⟩ := mx u q
            exact high i u i2 i3
          · obtain ⟨i, i1, i2, i3⟩ := my u q
            exact s2 i j u v (by (first | lia | omega)) (by (first | lia | omega)) (by (first | lia | omega)) i3 j3
  have px : x.toList.Pairwise (KLe kf) := by rw [ex]; exact seg_pairwise s1 (by (first | lia | omega)) (by (first | lia | omega))
  have py : y.toList.Pairwise (KLe kf) := by rw [ey]; exact seg_pairwise s2 (by (first | lia | omega)) (by (first | lia | omega))
  have sx : ∀ z ∈ x.toList, S z := fun z hz => let ⟨_, _, _, e⟩ := mx z hz; hS z (List.mem_of_getElem? e)
  have sy : ∀ z ∈ y.toList, S z := fun z hz => let ⟨_, _, _, e⟩ := my z hz; hS z (List.mem_of_getElem? e)
  have xlast : ∀ z, x.toList[x.size - 1]? = some z → z = xa := fun z hz => by
    rw [ex, List.getElem?_take, if_pos (by (first | lia | omega)), List.getElem?_drop, show k + (x.size - 1) = n1 - 1 by (first | lia | omega), hxa] at hz
    exact (Option.some.inj hz).symm
  have yfirst : ∀ z, y.toList[0]? = some z → z = yb := fun z hz => by
    rw [ey, List.getElem?_take, if_pos (by (first | lia | omega)), List.getElem?_drop, Nat.add_zero, hyb] at hz
    exact (Option.some.inj hz).symm
  have below : ∀ z ∈ y.toList, KLe kf z xa := fun z hz => by
    obtain ⟨i, i1, i2, i3⟩ := my z hz
    exact KLe.of_lt (g3 i z i1 i2 i3)
  have above : ∀ z ∈ x.toList, KLe kf yb z := fun z hz => by
    obtain ⟨i, i1, i2, i3⟩ := mx z hz
    exact KLe.of_lt (g2 i z (by (first | lia | omega)) (by (first | lia | omega)) i3)
  clear_value jp x y
  split
  · refine wpS_bind (sort_mergeLo O hk px py sx sy (by (first | lia | omega)) (by (first | lia | omega)) (fun u hu v hv => ?_) (fun u hu v hv => ?_) fun r st' hst hg => J r st' hst hg)
    · obtain ⟨i, hi, hv'⟩ := mem_drop_iff.mp hv
      have hlt := (List.getElem?_eq_some_iff.mp hv').1
      have : i = x.size - 1 := by rw [Array.length_toList] at hlt; (first | lia | omega)
      subst this
      rw [xlast v hv']; exact below u hu
    · rw [yfirst u hu]; exact above v hv
  · refine wpS_bind (sort_mergeHi O hk px py sx sy (by (first | lia | omega)) (by (first | lia | omega)) (fun u hu v hv => ?_) (fun u hu v hv => ?_) fun r st' hst hg => J r st' hst hg)
    · rw [xlast v hv]; exact below u hu
    · obtain ⟨i, hi, hu'⟩ := mem_take_iff.mp hu
      obtain rfl : i = 0 := by (first | lia | omega)
      rw [yfirst u hu']; exact above v hv
end
end Mine
end
section
open PySem PySem.W PyProof.Rows
set_option maxRecDepth 100000
namespace Mine
theorem minrun_half : ∀ n : Nat, n < 128 → n ≤ 2 * minRun' n n 0 := by decide +kernel
section
variable {κ : SortKind} {kf : Keyed → El} {S : Keyed → Prop} {prog : Program} {w : World} {A : Around} {s : Shared} {E : Value → Shared → Prop} {a₀ : Array Keyed} {st : SortSt}
theorem SrtK.seg {arr : Array Keyed} {lo n : Nat} (h : SrtK kf arr lo n) : SegS kf arr.toList lo n := fun i j x y hi hij hj hx hy => by
  have := h i j hi hij hj
  unfold Kd at this
  rw [arr_get, arr_get, hx, hy] at this
  exact this
/-- one stretch, or two -/
def SFin (κ : SortKind) (kf : Keyed → El) (a₀ : Array Keyed) (st : SortSt) : Prop :=
  (arrOf st).Perm a₀ ∧ kindOf st = κ ∧ failedOf st = none ∧ ((pendingOf st = #[(0, a₀.size, 0)] ∧ SrtK kf (arrOf st) 0 a₀.size) ∨
    ∃ n1 pw, 1 ≤ n1 ∧ n1 < a₀.size ∧ pendingOf st = #[(0, n1, pw), (n1, a₀.size - n1, 0)] ∧ SrtK kf (arrOf st) 0 n1 ∧ SrtK kf (arrOf st) n1 (a₀.size - n1))
theorem sort_runs (O : SOrd κ kf S prog w A s) (h0 : ∀ x ∈ a₀.toList, S x) {Q : Unit → SortSt → Prop} (hB : SB κ a₀ 0 [] #[] st) (h2 : 2 ≤ a₀.size) (h128 : a₀.size < 128)
    (h : ∀ st', (arrOf st').toList.Perm a₀.toList → failedOf st' = none → (arrOf st').toList.Pairwise (KLe kf) → Q () st') : wpS (model prog w) A E s sortRuns' Q st := by
  have hmr := minrun_half a₀.size h128
  rw [sortRuns'_eq]
  refine wpS_bind (wpS_get ?_)
  rw [hB.size]
  extract_lets +onlyGivenNames size minrun
  have esz : size = a₀.size := rfl
  have emr : minrun = minRun' a₀.size a₀.size 0 := rfl
  rw [← emr] at hmr
  clear_value size minrun
  refine wpS_bind (wpS_mono (wpS_forRange (I := fun x c st' => (x = 0 ∧ c = (none, 0) ∧ SB κ a₀ 0 [] #[] st') ∨
      (x = 1 ∧ ∃ n1 pre, 1 ≤ n1 ∧ n1 ≤ size ∧ (n1 = size ∨ minrun ≤ n1) ∧ c = (none, n1) ∧ SB κ a₀ n1 pre #[(0, n1, 0)] st' ∧ SrtK kf (arrOf st') 0 n1) ∨
      (2 ≤ x ∧ c = (none, size) ∧ SFin κ kf a₀ st'))
    (Q := fun c st' => c.1 = none ∧ SFin κ kf a₀ st') ?_ ?_ (.inl ⟨rfl, rfl, hB⟩)) ?_)
  · rintro x c st1 _ hx (⟨rfl, rfl, hB1⟩ | ⟨rfl, n1, pre, k1, k2, k3, rfl, hB1, hs1⟩ | ⟨hx2, rfl, hF⟩)
    · extract_lets +onlyGivenNames lo
      have elo : lo = 0 := rfl
      clear_value lo
      subst elo
      rw [if_neg (by (first | lia | omega))]
      refine wpS_bind (sort_count O h0 (by (first | lia | omega)) (by (first | lia | omega)) hB1 fun m st2 hB2 hm1 hm2 hs2 => ?_)
      dsimp -zeta only
      extract_lets +onlyGivenNames n0 jp
      have en : n0 = m := rfl
      have J : ∀ u n st3, SB κ a₀ 0 [] #[] st3 → 1 ≤ n → n ≤ size → (n = size ∨ minrun ≤ n) → SrtK kf (arrOf st3) 0 n → wpS (model prog w) A E s (jp u n) (fun r st' => r = .yield (none, n) ∧ SB κ a₀ n ((arrOf st').toList.take n) #[(0, n, 0)] st' ∧ SrtK kf (arrOf st') 0 n) st3 := by
        intro u n st3 hB3 j1 j2 j3 hs3
        unfold jp
        refine wpS_bind (wpS_get ?_)
        have hb : (pendingOf st3).back? = none := by rw [hB3.pend]; rfl
        rw [hb]
        refine wpS_bind (wpS_modify (wpS_pure ⟨by rw [Nat.zero_add], ⟨hB3.perm, hB3.kind, hB3.failed, ?_, rfl⟩, hs3⟩))
        show (pendingOf st3).push _ = _
        rw [hB3.pend]; rfl
      clear_value jp n0
      subst en
      by_cases hlt : n0 < minrun
      · rw [if_pos hlt]
        refine wpS_bind (wpS_lift (wpAny_rule ⟨rfl, ?_⟩))
        extract_lets +onlyGivenNames force
        have ef : force = min (size - 0) minrun := rfl
        clear_value force
        refine wpS_bind (sort_binary O h0 (by (first | lia | omega)) (by (first | lia | omega)) hB2 hs2 fun st3 hB3 hs3 => ?_)
        rw [if_neg (by decide)]
        refine wpS_mono (J () force st3 hB3 (by (first | lia | omega)) (by (first | lia | omega)) (by (first | lia | omega)) hs3) ?_
        rintro r st'' ⟨rfl, hB', hs'⟩
        exact .inr (.inl ⟨rfl, force, _, by (first | lia | omega), by (first | lia | omega), by (first | lia | omega), rfl, hB', hs'⟩)
      · rw [if_neg hlt]
        refine wpS_mono (J () n0 st2 hB2 (by (first | lia | omega)) (by (first | lia | omega)) (.inr (by (first | lia | omega))) hs2) ?_
        rintro r st'' ⟨rfl, hB', hs'⟩
        exact .inr (.inl ⟨rfl, n0, _, by (first | lia | omega), by (first | lia | omega), .inr (by (first | lia | omega)), rfl, hB', hs'⟩)
    · extract_lets +onlyGivenNames lo
      have elo : lo = n1 := rfl
      clear_value lo
      subst elo
      by_cases hge : lo ≥ size
      · rw [if_pos hge]
        obtain rfl : lo = a₀.size := by (first | lia | omega)
        exact wpS_pure ⟨rfl, hB1.perm, hB1.kind, hB1.failed, .inl ⟨hB1.pend, hs1⟩⟩
      rw [if_neg hge]
      have keep : ∀ st', SB κ a₀ lo pre #[(0, lo, 0)] st' → SrtK kf (arrOf st') 0 lo := fun st' hB' i j hi hij hj => by
        have e : ∀ i, i < lo → (arrOf st')[i]? = (arrOf st1)[i]? := fun i hi => by
          have q := hB'.pre.trans hB1.pre.symm
          have := congrArg (fun l => l[i]?) q
          simp only [List.getElem?_take, hi, if_true] at this
          rwa [arr_get, arr_get]
        have := hs1 i j hi hij hj
        rwa [Kd_congr (e i (by (first | lia | omega))), Kd_congr (e j (by (first | lia | omega)))]
      refine wpS_bind (sort_count O h0 (by (first | lia | omega)) (by (first | lia | omega)) hB1 fun m st2 hB2 hm1 hm2 hs2 => ?_)
      dsimp -zeta only
      extract_lets +onlyGivenNames n0 jp
      have en : n0 = m := rfl
      have J : ∀ u n st3, SB κ a₀ lo pre #[(0, lo, 0)] st3 → n = size - lo → SrtK kf (arrOf st3) lo n → wpS (model prog w) A E s (jp u n) (fun r st' => r = .yield (none, size) ∧ SFin κ kf a₀ st') st3 := by
        intro u n st3 hB3 j2 hs3
        unfold jp
        refine wpS_bind (wpS_get ?_)
        have hb : (pendingOf st3).back? = some (0, lo, 0) := by rw [hB3.pend]; rfl
        rw [hb]
        dsimp -zeta only
        extract_lets +onlyGivenNames lo' jp' pw
        refine wpS_bind (wpS_mono (wpS_forRange (I := fun _ c st' => st' = st3 ∧ c = (none, ())) (Q := fun c st' => st' = st3 ∧ c = (none, ())) ?_ (fun _ _ hh => hh) ⟨rfl, rfl⟩) ?_)
        · rintro y c st4 _ _ ⟨rfl, rfl⟩
          refine wpS_bind (wpS_get ?_)
          have hp : (pendingOf st4).size = 1 := by rw [hB3.pend]; rfl
          extract_lets +onlyGivenNames p
          have hp' : p.size = 1 := hp
          rw [if_neg (by (first | lia | omega))]
          exact wpS_pure ⟨rfl, rfl⟩
        · rintro c st4 ⟨rfl, rfl⟩
          refine wpS_bind (wpS_modify ?_)
          refine wpS_bind (wpS_modify (wpS_pure ⟨?_, hB3.perm, hB3.kind, hB3.failed, .inr ⟨lo, pw, k1, by (first | lia | omega), ?_, (show SrtK kf (arrOf st4) 0 lo from keep _ hB3), ?_⟩⟩))
          · show ForInStep.yield (none, lo + n) = _
            rw [j2, show lo + (size - lo) = size by (first | lia | omega)]
          · show ((pendingOf st4).modify ((pendingOf st4).size - 1) _).push (lo, n, 0) = _
            rw [hB3.pend, j2, esz]; rfl
          · rw [j2, esz] at hs3; exact hs3
      clear_value jp n0
      subst en
      by_cases hlt : n0 < minrun
      · rw [if_pos hlt]
        refine wpS_bind (wpS_lift (wpAny_rule ⟨rfl, ?_⟩))
        extract_lets +onlyGivenNames force
        have ef : force = min (size - lo) minrun := rfl
        clear_value force
        refine wpS_bind (sort_binary O h0 (by (first | lia | omega)) (by (first | lia | omega)) hB2 hs2 fun st3 hB3 hs3 => ?_)
        rw [if_neg (by decide)]
        refine wpS_mono (J () force st3 hB3 (by (first | lia | omega)) hs3) ?_
        rintro r st'' ⟨rfl, hF⟩
        exact .inr (.inr ⟨by (first | lia | omega), rfl, hF⟩)
      · rw [if_neg hlt]
        refine wpS_mono (J () n0 st2 hB2 (by (first | lia | omega)) hs2) ?_
        rintro r st'' ⟨rfl, hF⟩
        exact .inr (.inr ⟨by (first | lia | omega), rfl, hF⟩)
    · extract_lets +onlyGivenNames lo
      have elo : lo = size := rfl
      rw [if_pos (by (first | lia | omega))]
      exact wpS_pure ⟨rfl, hF⟩
  · rintro c st' (⟨hx, rfl, hB1⟩ | ⟨hx, _⟩ | ⟨hx2, rfl, hF⟩)
    · (first | lia | omega)
    · (first | lia | omega)
    · exact ⟨rfl, hF⟩
  · rintro c st1 ⟨hc, hF⟩
    obtain ⟨c1, c2⟩ := c
    obtain rfl : c1 = none := hc
    refine wpS_bind (wpS_mono (wpS_forRange (I := fun x c st' => c = (none, ()) ∧ ((x = 0 ∧ st' = st1) ∨ (1 ≤ x ∧ (arrOf st').toList.Perm a₀.toList ∧ failedOf st' = none ∧ (pendingOf st').size ≤ 1 ∧ (arrOf st').toList.Pairwise (KLe kf))))
      (Q := fun c st' => c = (none, ()) ∧ (arrOf st').toList.Perm a₀.toList ∧ failedOf st' = none ∧ (arrOf st').toList.Pairwise (KLe kf)) ?_ ?_ ⟨rfl, .inl ⟨rfl, rfl⟩⟩) ?_)
    · rintro x c st2 _ hx ⟨rfl, ⟨rfl, rfl⟩ | ⟨hx1, q1, q2, q3, q4⟩⟩
      · refine wpS_bind (wpS_get ?_)
        obtain ⟨f1, f2, f3, ⟨f4, f5⟩ | ⟨n1, pw, f4, f5, f6, f7, f8⟩⟩ := hF
        · extract_lets +onlyGivenNames p
          have hp' : p.size = 1 := by show (pendingOf st2).size = 1; rw [f4]; rfl
          rw [if_pos (by (first | lia | omega))]
          refine wpS_pure ⟨rfl, Array.perm_iff_toList_perm.mp f1, f3, ?_⟩
          have := seg_pairwise f5.seg (i := 0) (k := a₀.size) (Nat.le_refl _) (Nat.le_refl _)
          rwa [List.drop_zero, List.take_of_length_le (by rw [Array.length_toList, f1.size_eq]; exact Nat.le_refl _)] at this
        · extract_lets +onlyGivenNames p
          have hp' : p = #[(0, n1, pw), (n1, a₀.size - n1, 0)] := f6
          clear_value p
          subst hp'
          rw [if_neg (by simp)]
          refine wpS_bind (sort_mergeAt O f2 f3 (fun x hx => h0 x ((Array.perm_iff_toList_perm.mp f1).mem_iff.mp hx)) f4 (by (first | lia | omega)) (by rw [f1.size_eq]; (first | lia | omega)) f6 f7.seg f8.seg fun st3 g1 g2 g3 g4 => ?_)
          exact wpS_pure ⟨rfl, .inr ⟨by (first | lia | omega), g1.trans (Array.perm_iff_toList_perm.mp f1), g2, g3, g4⟩⟩
      · refine wpS_bind (wpS_get ?_)
        extract_lets +onlyGivenNames p
        rw [if_pos q3]
        exact wpS_pure ⟨rfl, q1, q2, q4⟩
    · rintro c st2 ⟨rfl, ⟨hx, rfl⟩ | ⟨hx1, q1, q2, q3, q4⟩⟩
      · (first | lia | omega)
      · exact ⟨rfl, q1, q2, q4⟩
    · rintro c st2 ⟨rfl, q1, q2, q3⟩
      exact wpS_pure (h _ q1 q2 q3)
end
end Mine
end
section
open PySem PySem.W PyProof.Rows
set_option maxRecDepth 100000
namespace Mine
section
variable {κ : SortKind} {kf : Keyed → El} {S : Keyed → Prop} {prog : Program} {w : World} {A : Around} {s : Shared} {E : Value → Shared → Prop}
theorem out_rev {vs : List Value} {ps : List Keyed} (hp : ps.Perm (vs.zip vs)) (hs : ps.Pairwise (KLe kf)) : (ps.map (·.2)).reverse.Perm vs ∧ (ps.map (·.2)).reverse.Pairwise fun x y => KLe kf (y, y) (x, x) := by
  have e : ∀ p ∈ ps, p = (p.2, p.2) := fun p hp' => Prod.ext (mem_zip_self (hp.mem_iff.mp hp')).1 rfl
  refine ⟨?_, ?_⟩
  · refine (List.reverse_perm _).trans ?_
    have := hp.map (fun p : Keyed => p.2)
    rwa [show (vs.zip vs).map (fun p : Keyed => p.2) = vs from List.map_snd_zip (Nat.le_refl _)] at this
  · rw [List.pairwise_reverse, List.pairwise_map]
    refine List.Pairwise.imp_of_mem ?_ hs
    intro p q hp' hq' hpq
    rwa [e p hp', e q hq'] at hpq

theorem sort_tree {a : Addr} {vs : List Value} {n : Nat} {P : PySem.Fin → Shared → Prop} (ho : s.heap.get? a = some (seqObj "list" vs.toArray n)) (hlen : vs.length < 128) (hS : ∀ v ∈ vs, S (v, v))
    (hkind : ∀ s' : Shared, (∀ c o, c ≠ a → s.heap.get? c = some o → s'.heap.get? c = some o) → 2 ≤ vs.length → ∀ {Q : SortKind → Shared → Prop} {E : Value → Shared → Prop}, Q κ s' → wpAny (model prog w) A (keyKind' vs.toArray) Q E s')
    (hO : ∀ s' : Shared, (∀ c o, c ≠ a → s.heap.get? c = some o → s'.heap.get? c = some o) → SOrd κ kf S prog w A s')
    (h : ∀ out : Array Value, out.toList.Perm vs → (out.toList.Pairwise fun x y => KLe kf (y, y) (x, x)) → P (.done (.ret .none)) { s with heap := sortedHeap s.heap a vs out }) :
    wpAny (model prog w) A (Builtin.«list.sort» ⟨[.ref a], [(Str.ofString "reverse", .bool true)]⟩) P E s := by
  rw [list_sort_rev]
  have ha : a < s.heap.objs.size := Heap.lt_size ho
  refine wpAny_bind (listItems_at ho rfl ?_)
  refine wpAny_bind (listUpdate_at ho rfl ?_)
  obtain ⟨e1, ho1⟩ : ∃ e1, (s.heap.update a (Obj.mapSeq fun _ => #[])).get? a = some (seqObj "list" #[] e1) := ⟨_, get?_update_seq ho (fun _ => #[])⟩
  refine wpAny_bind (seqEpoch_at ho1 rfl ?_)
  refine wpAny_bind (wpAny_newTuple ?_)
  refine wpAny_bind (wpAny_newList ?_)
  refine wpAny_holding ?_
  have ho6 : (((s.heap.update a (Obj.mapSeq fun _ => #[])).push (seqObj "tuple" vs.toArray 0)).push (seqObj "list" #[] 0)).get? a = some (seqObj "list" #[] e1) := by
    rw [Heap.get?_push_ne _ _ _ (by rw [size_push', Heap.size_update]; exact Nat.ne_of_lt (Nat.lt_succ_of_lt ha)), Heap.get?_push_ne _ _ _ (by rw [Heap.size_update]; exact Nat.ne_of_lt ha)]
    exact ho1
  have keep : ∀ c o, c ≠ a → s.heap.get? c = some o → (((s.heap.update a (Obj.mapSeq fun _ => #[])).push (seqObj "tuple" vs.toArray 0)).push (seqObj "list" #[] 0)).get? c = some o := fun c o hc e => by
    refine Heap.get?_push_of_some _ (Heap.get?_push_of_some _ ?_)
    rw [Heap.get?_update_ne _ _ _ _ hc]; exact e
  show wpAny (model prog w) A _ P E { s with heap := ((s.heap.update a (Obj.mapSeq fun _ => #[])).push (seqObj "tuple" vs.toArray 0)).push (seqObj "list" #[] 0) }
  have hsz : vs.toArray.size = vs.length := by simp
  dsimp only
  rw [if_pos rfl]
  refine wpAny_bind (wpAny_rule ?_)
  by_cases h2 : vs.toArray.size < 2
  · rw [if_pos h2, if_pos h2]
    refine wpAny_bind (wpAny_pure ?_)
    rw [StateT.run_pure]
    refine wpAny_bind (wpAny_pure ?_)
    dsimp only
    refine wpAny_bind (seqEpoch_at ho6 rfl ?_)
    refine wpAny_bind (listUpdate_at ho6 rfl ?_ (hsz2 := by
      simp only [if_true, Array.size_reverse, Array.size_map]; show (vs.toArray.zip vs.toArray).reverse.size ≤ _; rw [Array.size_reverse, Array.size_zip, sizeLine_eq]; (first | lia | omega)))
    simp only [bne_self_eq_false, Bool.false_eq_true, if_false, if_true]
    refine wpAny_pure (h _ ?_ ?_)
    · show ((vs.toArray.zip vs.toArray).reverse.map (·.2)).reverse.toList.Perm vs
      rw [Array.toList_reverse, Array.toList_map, Array.toList_reverse, List.map_reverse, List.reverse_reverse, Array.toList_zip]
      rw [show (vs.toArray.toList.zip vs.toArray.toList).map (fun p : Keyed => p.2) = vs from List.map_snd_zip (Nat.le_refl _)]
    · show ((vs.toArray.zip vs.toArray).reverse.map (·.2)).reverse.toList.Pairwise _
      rw [Array.toList_reverse, Array.toList_map, Array.toList_reverse, List.map_reverse, List.reverse_reverse, Array.toList_zip]
      rw [show (vs.toArray.toList.zip vs.toArray.toList).map (fun p : Keyed => p.2) = vs from List.map_snd_zip (Nat.le_refl _)]
      match vs, hsz, h2 with
      | [], _, _ => exact .nil
      | [_], _, _ => exact List.pairwise_singleton _ _
      | _ :: _ :: _, e, q =>
        exfalso
        rw [List.size_toArray] at q
        simp only [List.length_cons] at q
        (first | lia | omega)
  · rw [if_neg h2, if_neg h2]
    have e0 : ((vs.toArray.zip vs.toArray).reverse : Array Keyed).toList.Perm (vs.zip vs) := by
      rw [Array.toList_reverse, Array.toList_zip]; exact List.reverse_perm _
    have s0 : ((vs.toArray.zip vs.toArray).reverse : Array Keyed).size = vs.length := by simp
    refine wpAny_bind (hkind _ keep (by (first | lia | omega)) ?_)
    refine wpAny_bind (wpAny_mono (sort_runs (a₀ := (vs.toArray.zip vs.toArray).reverse) (kf := kf) (st := SortSt.mk' κ (vs.toArray.zip vs.toArray).reverse #[] 7 none) (hO _ keep)
      (Q := fun _ st' => (arrOf st').toList.Perm ((vs.toArray.zip vs.toArray).reverse : Array Keyed).toList ∧ failedOf st' = none ∧ (arrOf st').toList.Pairwise (KLe kf)) (fun p hp => ?_) ⟨Array.Perm.refl _, rfl, rfl, rfl, rfl⟩ (by (first | lia | omega)) (by (first | lia | omega)) fun st' a1 a2 a3 => ⟨a1, a2, a3⟩) ?_ fun _ _ e => e)
    · have := mem_zip_self (e0.mem_iff.mp hp)
      have e : p = (p.1, p.1) := Prod.ext rfl this.1.symm
      rw [e]; exact hS _ this.2
    rintro ⟨⟨⟩, st'⟩ s' ⟨rfl, hp, hf, hs⟩
    dsimp only
    have hps : (arrOf st').size = vs.length := by
      have := hp.length_eq
      rw [Array.length_toList, Array.length_toList] at this
      exact this.trans s0
    refine wpAny_bind (seqEpoch_at ho6 rfl ?_)
    refine wpAny_bind (listUpdate_at ho6 rfl ?_ (hsz2 := by
      rw [if_pos rfl, Array.size_reverse, Array.size_map]
      refine Nat.le_trans (Nat.le_of_eq hps) ?_; rw [sizeLine_eq]; (first | lia | omega)))
    rw [hf]
    simp only [bne_self_eq_false, Bool.false_eq_true, if_false, if_true]
    obtain ⟨o1, o2⟩ := out_rev (hp.trans e0) hs
    refine wpAny_pure (h _ ?_ ?_)
    · rw [Array.toList_reverse, Array.toList_map]; exact o1
    · rw [Array.toList_reverse, Array.toList_map]; exact o2

theorem sorted_tree {l : Addr} {vs : List Value} {Q : Value → Shared → Prop} (hl : s.heap.IsList l vs.toArray) (hlen : vs.length < 128) (hS : ∀ v ∈ vs, S (v, v))
    (hkind : ∀ (A' : Around) (s' : Shared), (∀ c o, s.heap.get? c = some o → s'.heap.get? c = some o) → 2 ≤ vs.length → ∀ {Q : SortKind → Shared → Prop} {E : Value → Shared → Prop}, Q κ s' → wpAny (model prog w) A' (keyKind' vs.toArray) Q E s')
    (hO : ∀ (A' : Around) (s' : Shared), (∀ c o, s.heap.get? c = some o → s'.heap.get? c = some o) → SOrd κ kf S prog w A' s')
    (h : ∀ out : Array Value, out.toList.Perm vs → (out.toList.Pairwise fun x y => KLe kf (y, y) (x, x)) → Q (.ref (s.heap.objs.size + 1)) { s with heap := sortedAll s.heap vs out }) :
    wpAny (model prog w) A (call (.builtin "sorted") [.ref l] [(Str.ofString "reverse", .bool true)]) Q E s := by
  refine call_function_entry_kw kind_sorted plain_sorted entry_sorted (args_sorted_rev _ _) ?_
  unfold Builtin.«sorted»
  refine wpAny_bind (m := checkCount "sorted" 1 1 _) (wpAny_pure ?_)
  refine wpAny_bind (collect_list hl ?_)
  refine wpAny_bind (wpAny_newList ?_)
  have hsz : ((s.heap.push (seqObj "list" #[] 0)).update s.heap.objs.size (Obj.mapSeq (· ++ vs.toArray))).objs.size = s.heap.objs.size + 1 := by
    rw [Heap.size_update, size_push']
  have hoL : (((s.heap.push (seqObj "list" #[] 0)).update s.heap.objs.size (Obj.mapSeq (· ++ vs.toArray))).push (seqObj "list" vs.toArray 0)).get? (s.heap.objs.size + 1) = some (seqObj "list" vs.toArray 0) := by
    rw [← hsz]; exact Heap.get?_push_size _ rfl
  have keep : ∀ b o, s.heap.get? b = some o → b ≠ s.heap.objs.size + 1 ∧ (((s.heap.push (seqObj "list" #[] 0)).update s.heap.objs.size (Obj.mapSeq (· ++ vs.toArray))).push (seqObj "list" vs.toArray 0)).get? b = some o := fun b o q => by
    have hlt : b < s.heap.objs.size := Heap.lt_size q
    refine ⟨Nat.ne_of_lt (Nat.lt_succ_of_lt hlt), ?_⟩
    rw [Heap.get?_push_ne _ _ _ (by rw [hsz]; exact Nat.ne_of_lt (Nat.lt_succ_of_lt hlt)), Heap.get?_update_ne _ _ _ _ (Nat.ne_of_lt hlt), Heap.get?_push_ne _ _ _ (Nat.ne_of_lt hlt)]
    exact q
  show wpAny _ _ _ _ _ { s with heap := ((s.heap.push (seqObj "list" #[] 0)).update s.heap.objs.size (Obj.mapSeq (· ++ vs.toArray))).push (seqObj "list" vs.toArray 0) }
  rw [hsz]
  refine wpAny_bind (wpAny_holding (wpAny_call_entry_kw slot_list_sort ⟨_, hoL, rfl⟩ entry_list_sort (sort_tree (κ := κ) (kf := kf) (S := S) hoL hlen hS (fun s' hk h2 Q' E' hq => hkind _ s' (fun c o e => hk c o (keep c o e).1 (keep c o e).2) h2 hq)
    (fun s' hk => hO _ s' fun c o e => hk c o (keep c o e).1 (keep c o e).2) fun out a1 a2 => ⟨_, rfl, ?_⟩) (args_list_sort_rev _ _)))
  exact wpAny_pure ⟨_, rfl, h out a1 a2⟩

/-! ints -/
/-! tuples of ints -/
def kfT (h : Heap) (p : Keyed) : El := match p.1 with
  | .ref a => (match h.get? a with | some o => (match o.data with | .seq xs _ => xs.toList.map numOf | _ => []) | none => [])
  | _ => []
def ST (h : Heap) (p : Keyed) : Prop := ∃ a xs k n r, p.1 = .ref a ∧ IsT h a (List.toArray xs) k ∧ IntsAre xs (n :: r)
theorem kfT_eq {h : Heap} {v v2 : Value} {a : Addr} {xs : List Value} {k : Nat} {ns : List Int} (e : v = .ref a) (hT : IsT h a xs.toArray k) (hI : IntsAre xs ns) : kfT h (v, v2) = ns := by
  subst e
  unfold kfT
  dsimp only
  rw [hT]
  exact hI.nums
theorem katlex_ints {b : Bool} {A' : Around} {s' : Shared} {Q : Bool → Shared → Prop} : ∀ {xs ys : List Value} {nx ny : List Int}, IntsAre xs nx → IntsAre ys ny → ∀ i, Q (lexLt nx ny) s' → KatLex prog w A' b (decide (xs.length < ys.length)) Q (xs.zip ys) i s'
  | _, _, _, _, .nil, .nil, i, hq => hq
  | _, _, _, _, .nil, .cons m u r, i, hq => hq
  | _, _, _, _, .cons n t r, .nil, i, hq => hq
  | _, _, _, _, .cons (vs := xs) (ns := nx) n t hx, .cons (vs := ys) (ns := ny) m u hy, i, hq => by
    rw [List.zip_cons_cons]
    refine kat_cons (wpAny_eqBool_int ?_)
    rw [show decide ((Value.int n t :: xs).length < (Value.int m u :: ys).length) = decide (xs.length < ys.length) from by simp]
    by_cases e : n = m
    · subst e
      rw [beq_self_eq_true]
      refine kat_yes (katlex_ints hx hy (i + 1) ?_)
      simpa [lexLt] using hq
    · rw [show (n == m) = false from by simpa using e]
      refine kat_no ?_
      have hq' : Q (decide (n < m)) s' := by
        simp only [lexLt, e, if_false] at hq; exact hq
      cases hb : (b && i == 0) with
      | true => exact oneLt_int hq'
      | false => exact kat_one _ _ (PyProof.Rows.lt_int (show W.BoolBack Q (.bool (decide (n < m))) s' from hq'))
theorem sord_tup {h : Heap} {A' : Around} {s' : Shared} (keep : ∀ c o, h.get? c = some o → s'.heap.get? c = some o) {b : Bool} : SOrd (tuples' b) (kfT h) (ST h) prog w A' s' where
  cmp := by
    rintro ⟨x, x2⟩ ⟨y, y2⟩ ⟨a, xs, k, n, r, hx, tx, ix⟩ ⟨c, ys, m, n', r', hy, ty, iy⟩ Q E hq
    rw [kfT_eq hx tx ix, kfT_eq hy ty iy] at hq
    replace hx : x = .ref a := hx
    replace hy : y = .ref c := hy
    subst hx hy
    refine kat_lt (keep _ _ tx) rfl (keep _ _ ty) rfl ?_
    have := katlex_ints (prog := prog) (w := w) (b := b) (A' := A') (s' := s') (Q := Q) ix iy 0 hq
    simpa using this
end
end Mine
end
section
open PySem PySem.W PyProof.Rows
set_option maxRecDepth 100000
namespace Mine
section
variable {X : Cx} {σ : St} {n : Nat} {pos : Pos}
def BCk (X : Cx) (f : Value) (Vs : List Val) (kw : List (Str × Value)) (σ : St) (Q : Val → St → Prop) : Prop := ∀ s vs, Rep X σ s → RVs s.heap σ.mem vs Vs → Ta X RV (call f vs kw) σ s Q
theorem AE_builtinR (ok : X.Ok n) {x : Str} {p : Pos} {id : String} {e : Expr} {b : Bool} {k : Nat} {cp kp : Pos} {Q : Val → St → Prop} (N : BName X x (.builtin id))
    (he : backTo pos (starEach [e] X.env) = (false, eval e X.env) :: backTo pos (starEach [] X.env))
    (h : AEs X pos [e] σ (fun Vs σ1 => BCk X (.builtin id) Vs [(Str.ofString "reverse", .bool b)] σ1 Q)) : AE X (.Call (.Name x p) [e] [⟨some (Str.ofString "reverse"), .Constant (.bool b) k cp, kp⟩] pos) σ Q := fun s R => by
  show wpAny _ _ (eval (.Name x p) X.env >>= fun f => callWith pos f [] (backTo pos (starEach [e] X.env)) (backToKw pos (keywordEach [⟨some (Str.ofString "reverse"), .Constant (.bool b) k cp, kp⟩] X.env))) _ _ s
  refine wpAny_bind (name_builtin ok R N.kind N.dbg N.free N.ne N.boot ?_)
  refine callWith_kw (wpAny_mono (h s R) ?_ fun _ _ e => e) he (by rw [he]; rfl)
  rintro vs s1 ⟨Vs, σ1, rvs, R1, x1, hc⟩
  refine kws_cons (wpAny_Constant_bool (kws_nil ?_))
  exact (hc s1 vs R1 rvs).then R1 x1

theorem BC_sortedR (Q : Val → St → Prop) {V : Val} {l : List El} (hs : SeqOf σ V (l.map tv)) (hl : l.length < 128) (hne : ∀ x ∈ l, x ≠ []) (h : ∀ l' : List El, l'.Perm l → l'.Pairwise Ge → Made σ (l'.map tv) Q) :
    BCk X (.builtin "sorted") [V] [(Str.ofString "reverse", .bool true)] σ Q := fun s v R rv => by
  cases rv with
  | cons a r =>
    cases r
    obtain ⟨L, items, k, rfl, e, rvs⟩ := hs.open R a
    have each : ∀ (items : List Value) (l : List El), RVs s.heap σ.mem items (l.map tv) → (∀ x ∈ l, x ≠ []) → l = items.map (fun v => kfT s.heap (v, v)) ∧ ∀ v ∈ items, ST s.heap (v, v) ∧ RV s.heap σ.mem v (tv (kfT s.heap (v, v))) := by
      intro items
      induction items with
      | nil =>
        intro l r _
        cases l with
        | nil => exact ⟨rfl, by simp⟩
        | cons _ _ => cases r
      | cons v items ih =>
        intro l r hn
        cases l with
        | nil => cases r
        | cons x l =>
          cases r with
          | cons a r =>
            obtain ⟨i1, i2⟩ := ih l r fun y hy => hn y (.tail _ hy)
            have ra := a
            obtain ⟨b, its, k', rfl, tT, _, rv⟩ := a.tup_inv
            have eI := rv.ints
            have ek : kfT s.heap (.ref b, .ref b) = x := kfT_eq rfl tT eI
            refine ⟨by rw [List.map_cons, ek, ← i1], fun u hu => ?_⟩
            rcases List.mem_cons.mp hu with rfl | hu
            · refine ⟨?_, by rw [ek]; exact ra⟩
              match x, hn x (.head _), eI with
              | n :: r, _, eI => exact ⟨b, its, k', n, r, rfl, tT, eI⟩
            · exact i2 u hu
    obtain ⟨el, all⟩ := each items l rvs hne
    have len : items.length = l.length := by rw [el, List.length_map]
    refine sorted_tree (κ := tuples' (Value.type "int" != Value.type "tuple")) (kf := kfT s.heap) (S := ST s.heap) (PySem.IsL.isList e) (by (first | lia | omega)) (fun v hv => (all v hv).1) ?_ (fun A' s' keep => sord_tup keep) ?_
    · intro A' s' keep h2 Q' E' hq
      have fs : ∀ (items : List Value), (∀ v ∈ items, ST s.heap (v, v)) → ∃ fs : List Value, KatTups s'.heap items fs ∧ fs.length = items.length ∧ ∀ f ∈ fs, ∃ n t, f = .int n t := by
        intro items
        induction items with
        | nil => intro _; exact ⟨[], .nil, rfl, by simp⟩
        | cons v items ih =>
          intro hh
          obtain ⟨fs, f1, f2, f3⟩ := ih fun u hu => hh u (.tail _ hu)
          obtain ⟨a, xs, k, n, r, hv, tx, ix⟩ := hh v (.head _)
          replace hv : v = .ref a := hv
          subst hv
          cases ix with
          | cons n t ix =>
            refine ⟨.int n t :: fs, KatTups.cons (keep _ _ tx) rfl rfl rfl f1, by simp [f2], fun f hf => ?_⟩
            rcases List.mem_cons.mp hf with rfl | hf
            · exact ⟨n, t, rfl⟩
            · exact f3 f hf
      obtain ⟨fs, f1, f2, f3⟩ := fs items fun v hv => (all v hv).1
      refine kat_kind (T := .type "int") f1 (by (first | lia | omega)) (fun v hv => ?_) rfl hq
      obtain ⟨n, t, rfl⟩ := f3 v hv
      exact .now
    · intro out p1 p2
      obtain ⟨c, he⟩ := sortedAll_at s.heap items out
      have fr : s.heap.get? (s.heap.objs.size + 1) = none := Heap.get?_none_of_le (Nat.le_succ _)
      have rvo : ∀ (o : List Value), (∀ v ∈ o, v ∈ items) → RVs s.heap σ.mem o ((o.map fun v => kfT s.heap (v, v)).map tv) := by
        intro o
        induction o with
        | nil => intro _; exact .nil
        | cons v o ih => intro hh; exact .cons (all v (hh v (.head _))).2 (ih fun u hu => hh u (.tail _ hu))
      have pm : (out.toList.map fun v => kfT s.heap (v, v)).Perm l := by
        rw [el]; exact p1.map _
      have ps : (out.toList.map fun v => kfT s.heap (v, v)).Pairwise Ge := by
        rw [List.pairwise_map]; exact p2
      obtain ⟨V', σ', r1, r2, r3, r4⟩ := (h _ pm ps).take (t := s.toks) R fr (fun _ _ => sortedAll_old) (items := out.toList) (k := c) (by simpa [seqObj] using he) (rvo _ fun v hv => p1.mem_iff.mp hv)
      exact ⟨V', σ', r1, r2, r3, r4⟩
end
end Mine
end
section
open PySem PySem.W PyProof.Rows PySem.Calls
set_option maxRecDepth 100000
namespace Mine
section
variable {prog : Program} {w : World} {A : Around} {E : Value → Shared → Prop} {s : Shared} {pos : Pos}
def popSaid : Str := Str.ofString "pop from empty list"
theorem pop_meets (l : Addr) (n : Nat) : Meets (Builtin.«list.pop» ⟨[.ref l], []⟩) (fun A R s => s.heap.get? l = some { cls := .type "list", dict := none, data := .seq #[] n, slots := #[] } ∧ A.handled = none ∧ ∀ h' tk e u, Heap.MadeExc s.heap h' e "IndexError" [.str popSaid u] → R (.error (.ref e)) { s with heap := h', toks := tk }) :=
  .of_wp fun prog w A R s h => by
    obtain ⟨hl, hh, h⟩ := h
    unfold Builtin.«list.pop»
    refine wpAny_bind (m := selfAndSome "list.pop" "pop" 0 1 _) (wpAny_pure ?_)
    dsimp only
    refine wpAny_bind (wpAny_pure ?_)
    refine wpAny_bind (listItems_at hl rfl ?_)
    refine wpAny_bind (wpAny_rule ?_)
    unfold raiseErrorWords
    refine wpAny_bind (wpAny_bind (wpAny_mkText (wpAny_bind (wpAny_newExc_plain plainExc_IndexError fun h' e hm => wpAny_raiseNew_none hh ?_))))
    exact h h' _ e _ hm
theorem pop_empty {l : Addr} {n : Nat} {Q : Value → Shared → Prop} (hl : IsL s.heap l #[] n) (hh : A.handled = none) (h : ∀ h' tk e u, Heap.MadeExc s.heap h' e "IndexError" [.str popSaid u] → E (.ref e) { s with heap := h', toks := tk }) :
    wpAny (model prog w) A (callWith pos (.builtin "list.pop") [.ref l] [] []) Q E s :=
  seqMethod0_meets F.slot_list_pop F.entry_list_pop ⟨_, hl, rfl⟩ (F.args_list_pop_1 _) (pop_meets l n) ⟨hl, hh, h⟩
end

section
variable {X : Cx} {σ : St} {n : Nat} {pos : Pos}
/-- only the frame's own side notes have moved -/
theorem Rep.turn {s : Shared} {h' : Heap} {tk : Nat} (R : Rep X σ s) (newL : X.B.h₁.get? X.f.L = none) (hk : ∀ b o, s.heap.get? b = some o → b ≠ X.f.L → h'.get? b = some o) (hn : ∀ m, s.heap.Ns X.f.L m → h'.Ns X.f.L m) :
    Rep X σ { s with heap := h', toks := tk } ∧ Ext X σ s σ { s with heap := h', toks := tk } := by
  obtain ⟨m, hm, hL, hc, hl⟩ := id R.env
  have kp : ∀ b o, s.heap.get? b = some o → σ.mem b = none → isSeqObj o → h'.get? b = some o ∧ σ.mem b = none := fun b o e q z => ⟨hk b o e (R.locals_ne e (seq_no_dict z)), q⟩
  have kc : ∀ c v, s.heap.IsCell c v → h'.IsCell c v := fun c v ⟨o, e, d⟩ => ⟨o, hk c o e (R.locals_ne e fun es n q => by rw [d] at q; cases q), d⟩
  refine ⟨⟨fun b o e => hk b o (R.keep b o e) (fun q => by rw [q, newL] at e; cases e), R.gens, R.os, fun a bx e => ⟨(R.mem a bx e).1, (R.mem a bx e).2.mono kp fun o e' => hk a o e' (fun q => by rw [q, hL] at e; cases e)⟩, ?_⟩, ⟨fun b o e _ q _ => hk b o e q, fun _ _ _ e => e, fun b o e => ?_⟩⟩
  · refine ⟨m, hn m hm, hL, fun c hc' => ⟨(hc c hc').1, let ⟨v, hv⟩ := (hc c hc').2; ⟨v, kc c v hv⟩⟩, fun x V hx => ?_⟩
    obtain ⟨h1, v, rv, h2⟩ := hl x V hx
    refine ⟨h1, v, rv.mono kp, h2.imp id ?_⟩
    rintro ⟨c, e1, e2, e3⟩
    exact ⟨c, e1, kc _ _ e2, e3⟩
  · by_cases q : b = X.f.L
    · obtain ⟨o', _, _, e', _⟩ := hn m hm; exact ⟨o', q ▸ e'⟩
    · exact ⟨o, hk b o e q⟩

/-- into a def, whatever comes of it -/
theorem enter_def (ok : X.Ok (n + 1)) {name : Str} {params : List Str} {body : List Stmt} {sc : Scope} {fa : Addr} {fd : FuncData} {o : Obj} (F : FnAt X.B name params body sc fa fd o) {Vs : List Val} {vs : List Value} {s : Shared} {Q E : Value → Shared → Prop}
    (R : Rep X σ s) (rvs : RVs s.heap σ.mem vs Vs) (hl : Vs.length = params.length)
    (h : ∀ X' h₁ tk, X'.B = X.B → X'.A = X.A.deeper X'.env → X'.f.frame = some X'.f.L → X'.sc = sc → s.heap.get? X'.f.L = none → (∀ b o, s.heap.get? b = some o → h₁.get? b = some o) → X'.Ok n → Rep X' (σ.enter params Vs) { s with heap := h₁, toks := tk } →
      wpAny X.M X'.A (execs body X'.env) (fun f s' => Q (match f with | .ret v => v | _ => .none) s') (fun e s' => wpAny X.M X'.A (leaving X'.env e) (fun _ s'' => E e s'') (fun e' s'' => E e' s'') s') { s with heap := h₁, toks := tk }) :
    wpAny X.M X.A (call (.ref fa) vs) Q E s := by
  refine wpAny_call ?_
  have hvl : vs.length = params.length := rvs.length.trans hl
  refine codeAny_call_cells (body := body) (binds := params.zip vs) (Nat.lt_of_le_of_lt (Nat.le_add_right _ _) ok.depth) (R.keep _ _ F.get) F.data (ok.base.lim.keeps R.keep) (F.code.keeps R.keep) F.body (F.bind vs hvl) F.clo ?_ ?_ (by rw [F.scope]; exact F.co) (by rw [F.scope]; exact F.gen) (by rw [F.scope]; exact F.kind)
  · intro x hx
    have hm : x.1 ∈ params := by
      obtain ⟨a, b⟩ := x
      exact (List.of_mem_zip hx).1
    rw [F.scope]
    rcases (F.kinds _ hm).2 with k | k
    · exact .inl k
    · exact .inr ⟨k, cellsFrom_some' k⟩
  · intro s₁ C
    have eE : callEnvC fd s.heap.objs.size fa = (fnFm s.heap.objs.size (fd.qualname ++ ".<locals>.") fa fd.code sc).env sc := by
      simp only [callEnvC, newEnv, Fm.env, fnFm, F.scope, F.globals, F.builtins]
    rw [eE] at C ⊢
    generalize hX' : (⟨X.B, X.A.deeper ((fnFm s.heap.objs.size (fd.qualname ++ ".<locals>.") fa fd.code sc).env sc), fnFm s.heap.objs.size (fd.qualname ++ ".<locals>.") fa fd.code sc, sc⟩ : Cx) = X'
    have eB : X'.B = X.B := by rw [← hX']
    have eA : X'.A = X.A.deeper ((fnFm s.heap.objs.size (fd.qualname ++ ".<locals>.") fa fd.code sc).env sc) := by rw [← hX']
    have eF : X'.f = fnFm s.heap.objs.size (fd.qualname ++ ".<locals>.") fa fd.code sc := by rw [← hX']
    have eS : X'.sc = sc := by rw [← hX']
    have eL : X'.f.L = s.heap.objs.size := by rw [eF]; rfl
    have eC : X'.f.cells = cellsFrom (s.heap.objs.size + 1) sc.names [] := by rw [eF]; rfl
    have eO : X'.f.own = (cellsFrom (s.heap.objs.size + 1) sc.names []).map (·.2) := by rw [eF]; rfl
    have above : ∀ c ∈ X'.f.own, s.heap.objs.size < c := by
      intro c hc
      rw [eO] at hc
      obtain ⟨⟨y, c'⟩, hm, rfl⟩ := List.mem_map.mp hc
      exact C.above y c' hm
    have notlive : ∀ c, s.heap.objs.size ≤ c → s.heap.get? c = none := fun c hc => Heap.get?_none_of_le hc
    have ok' : X'.Ok n := by
      refine ⟨eB ▸ ok.base, eS ▸ F.kind, ?_, ?_, ?_, ?_, ?_, ?_⟩
      · rw [eA]; exact ok.handled
      · rw [eA]; show X.A.depth + 1 + n < _; have := ok.depth; (first | lia | omega)
      · rw [eA]; show X.A.units + 3 + 10 * n + 100 < _; have := ok.units; (first | lia | omega)
      · rw [eB, eL]; exact R.top.1
      · intro c hc
        refine ⟨?_, by rw [eL]; exact Nat.ne_of_gt (above c hc)⟩
        rw [eB]; exact (R.fresh (notlive c (Nat.le_of_lt (above c hc)))).2
      · intro x y c hx hy
        rw [eC] at hx hy
        exact name_of_addr C.apart (mem_of_lookup hx) (mem_of_lookup hy)
    obtain ⟨h₁, tk₁, rfl, hk₁⟩ := C.done
    have g := R.grow (t := tk₁) hk₁
    have R' : Rep X' (σ.enter params Vs) { s with heap := h₁, toks := tk₁ } := by
      refine ⟨eB ▸ g.1.keep, g.1.gens, eB ▸ g.1.os, fun a bx e => ?_, ?_⟩
      · have q := g.1.mem a bx e; rw [eB]; exact q
      · refine ⟨_, eL ▸ C.toInCall.ns, by rw [eL]; exact R.top.2.2.2, fun c hc => ?_, fun x V hx => ?_⟩
        · replace hc : c ∈ X'.f.own := hc.elim id fun ⟨x, hx⟩ => by rw [eC] at hx; rw [eO]; exact List.mem_map.mpr ⟨(x, c), hx, rfl⟩
          refine ⟨(R.fresh (notlive c (Nat.le_of_lt (above c hc)))).1, ?_⟩
          rw [eO] at hc
          obtain ⟨⟨y, c'⟩, hm, rfl⟩ := List.mem_map.mp hc
          have nd : ((cellsFrom (s.heap.objs.size + 1) sc.names []).map (·.1)).Nodup := by
            rw [← cellsFrom_names sc.names 0 (s.heap.objs.size + 1) [] [] rfl]; exact F.cellNd
          exact ⟨_, C.cell y c' (lookup_of_mem_nodup nd hm)⟩
        · obtain ⟨v, hv, rv⟩ := zip_lookup rvs hx
          have hmem := zip_lookup_mem hx
          have nd : ((params.zip vs).map (·.1)).Nodup := by
            rw [List.map_fst_zip (by (first | lia | omega))]; exact F.nodup
          refine ⟨(F.kinds x hmem).1, v, g.2.rv R rv, ?_⟩
          have ek : X'.env.kindOf x = sc.names.lookup x := by
            show X'.sc.names.lookup x = _; rw [eS]
          rcases (F.kinds x hmem).2 with k | k
          · exact .inl ⟨ek.trans k, bindL_in _ _ x v nd hv k⟩
          · obtain ⟨c, hc⟩ := Option.isSome_iff_exists.mp (cellsFrom_some' (n := s.heap.objs.size + 1) k)
            refine .inr ⟨c, eC ▸ hc, ?_, ?_, .inl (ek.trans k)⟩
            · have q := C.cell x c hc
              rw [bindC_in _ _ x v nd hv (by show sc.names.lookup x ≠ _; rw [k]; decide)] at q
              exact q
            · exact (R.fresh (notlive c (Nat.le_of_lt (C.above x c (mem_of_lookup hc))))).1
    have hw := h X' h₁ tk₁ eB (by rw [eA, ← hX']) (by rw [eF]; rfl) eS (by rw [eL]; exact notlive _ (Nat.le_refl _)) hk₁ ok' R'
    rw [← eA, show (fnFm s.heap.objs.size (fd.qualname ++ ".<locals>.") fa fd.code sc).env sc = X'.env from by rw [← hX']]
    exact hw
end
end Mine
end
section
open PySem PySem.W PyProof.Rows PySem.Calls
set_option maxRecDepth 100000
namespace Mine
section
variable {X : Cx} {σ : St} {n : Nat} {pos : Pos}
theorem AX_try {body : List Stmt} {h₀ : ExceptHandler} {hs : List ExceptHandler} {Q : Fl → St → Prop} (h : AS X body σ Q) : AX X (.Try body (h₀ :: hs) [] [] pos) σ Q := fun s R => by
  refine wpAny_Try_except (wpAny_mono (h s R) ?_ fun _ _ e => e.elim)
  rintro f s1 ⟨fl, σ1, rf, R1, x1, hk⟩
  cases rf with
  | next => exact wpAny_execs_nil ⟨_, σ1, .next, R1, x1, hk⟩
  | brk => exact ⟨_, σ1, .brk, R1, x1, hk⟩
  | cont => exact ⟨_, σ1, .cont, R1, x1, hk⟩
  | ret r => exact ⟨_, σ1, .ret r, R1, x1, hk⟩

def popCall (q1 q2 q3 : Pos) : Expr := .Call (.Name (Str.ofString "_heappop_max") q1) [.Name (Str.ofString "heap") q2] [] q3
def faultTest (q6 q7 q8 q9 q10 q11 q12 q13 q14 : Pos) (k : Nat) : Expr :=
  .BoolOp .Or [.Compare (.Call (.Name (Str.ofString "str") q6) [.Name (Str.ofString "fault") q7] [] q8) [.NotEq] [.Constant (.str popSaid) k q9] q10, .Compare (.Name (Str.ofString "heap") q11) [.NotEq] [.List [] q12] q13] q14

theorem load_any (ok : X.Ok n) {s : Shared} {A' : Around} (R : Rep X σ s) {x : Str} {V : Val} (hx : σ.loc x = some V) {E : Value → Shared → Prop} {P : Value → Shared → Prop} (h : ∀ v, RV s.heap σ.mem v V → P v s) :
    wpAny X.M A' (loadName X.env x) P E s := by
  obtain ⟨m, hn, _, _, hl⟩ := R.env
  obtain ⟨_, v, rv, hh⟩ := hl x V hx
  rcases hh with ⟨hk, hm⟩ | ⟨c, hc, hv, _, hk | ⟨hk, hcd⟩⟩
  · exact wpAny_loadName_local ok.kind hk hn hm (h v rv)
  · exact wpAny_loadName_cell ok.kind hk hc hv (h v rv)
  · exact wpAny_loadName_free ok.kind hk hc hv (h v rv) hcd

/-- a name is unbound -/
theorem Rep.unset {s : Shared} {h' : Heap} {tk : Nat} {x : Str} {u : Option Value} {m : Str → Option Value} (R : Rep X σ s) (newL : X.B.h₁.get? X.f.L = none)
    (hL : σ.mem X.f.L = none) (hc : ∀ c, (c ∈ X.f.own ∨ ∃ x, (x, c) ∈ X.f.cells) → σ.mem c = none ∧ ∃ v, s.heap.IsCell c v)
    (hl : ∀ x V, σ.loc x = some V → (x == ("__debug__" : Str)) = false ∧ ∃ v, RV s.heap σ.mem v V ∧
      ((X.env.kindOf x = some .local ∧ m x = some v) ∨ (∃ c, X.f.cells.lookup x = some c ∧ s.heap.IsCell c (some v) ∧ σ.mem c = none ∧ (X.env.kindOf x = some .cell ∨ (X.env.kindOf x = some .free ∧ (x == ("__classdict__" : Str)) = false)))))
    (hu : h'.Ns X.f.L (fun y => if y = x then u else m y)) (hs : Heap.SameBut X.f.L s.heap h') :
    Rep X ⟨σ.mem, fun y => if y = x then none else σ.loc y⟩ { s with heap := h', toks := tk } ∧ Ext X σ s ⟨σ.mem, fun y => if y = x then none else σ.loc y⟩ { s with heap := h', toks := tk } := by
  have kp : ∀ b o, b ≠ X.f.L → s.heap.get? b = some o → h'.get? b = some o := fun b o q e => hs.extBut b o q e
  have ks : ∀ b o, s.heap.get? b = some o → σ.mem b = none → isSeqObj o → h'.get? b = some o ∧ σ.mem b = none := fun b o e m q => ⟨kp b o (R.locals_ne e (seq_no_dict q)) e, m⟩
  have kc : ∀ c v, s.heap.IsCell c v → h'.IsCell c v := fun c v ⟨o, e, d⟩ => ⟨o, kp _ _ (R.locals_ne e (fun es n q => by rw [d] at q; cases q)) e, d⟩
  refine ⟨⟨fun b o e => kp b o (fun q => by rw [q, newL] at e; cases e) (R.keep b o e), R.gens, R.os, fun a bx e => ⟨(R.mem a bx e).1, (R.mem a bx e).2.mono ks fun o e' => kp a o (fun q => by rw [q] at e; exact absurd (hL.symm.trans e) nofun) e'⟩, ?_⟩, ⟨fun b o e _ q _ => kp b o q e, fun _ _ _ e => e, fun b o e => ?_⟩⟩
  · refine ⟨_, hu, hL, fun c hm' => ⟨(hc c hm').1, let ⟨v, hv⟩ := (hc c hm').2; ⟨v, kc c v hv⟩⟩, fun y W hy => ?_⟩
    by_cases q : y = x
    · simp [q] at hy
    · have hy' : σ.loc y = some W := by simpa [q] using hy
      obtain ⟨h1, v, ru, h2⟩ := hl y W hy'
      refine ⟨h1, v, ru.mono ks, ?_⟩
      rcases h2 with ⟨k1, k2⟩ | ⟨c, e1, e2, e3⟩
      · exact .inl ⟨k1, by simp [q, k2]⟩
      · exact .inr ⟨c, e1, kc _ _ e2, e3⟩
  · by_cases q : b = X.f.L
    · obtain ⟨o', _, _, e', _⟩ := hu; exact ⟨o', q ▸ e'⟩
    · exact ⟨o, kp b o q e⟩

theorem AX_tryE (ok : X.Ok (n + 1)) (hfr : X.A.frames = some [X.env]) (hfl : X.f.frame = some X.f.L) {body : List Stmt} {sc : Scope} {fa : Addr} {fd : FuncData} {o : Obj} (FN : FnAt X.B (Str.ofString "_heappop_max") [Str.ofString "heap"] body sc fa fd o)
    {p1 p2 p3 p4 p5 : Pos} {rest : List Stmt} (hb : body = .Assign [.Name (Str.ofString "lastelt") p1] (.Call (.Attribute (.Name (Str.ofString "heap") p2) (Str.ofString "pop") p3) [] [] p4) p5 :: rest)
    (hev : ∀ X' : Cx, ∃ pl : Sem Bool, eval (.Call (.Attribute (.Name (Str.ofString "heap") p2) (Str.ofString "pop") p3) [] [] p4) X'.env = (do
      let ov ← eval (.Name (Str.ofString "heap") p2) X'.env
      standAt p3.atName
      let (f, first) ← holding [ov] (getMethod ov (Str.ofString "pop") pl)
      callWith p4 f first (backTo p4 (starEach [] X'.env)) []))
    {a : Addr} (hheap : σ.loc (Str.ofString "heap") = some (.ref a)) (hm : σ.mem a = some (.list [])) (hk : X.env.kindOf (Str.ofString "_heappop_max") = some .globalImplicit)
    (N : BName X (Str.ofString "IndexError") (.type "IndexError")) (Ns : BName X (Str.ofString "str") (.type "str")) (hfk : X.env.kindOf (Str.ofString "fault") = some .local)
    {t : Expr} {q1 q2 q3 q4 q5 q6 q7 q8 q9 q10 q11 q12 q13 q14 q15 q16 : Pos} {k : Nat} {thenB : List Stmt} {Q : Fl → St → Prop}
    (hs : swapsWithSole [t] (popCall q1 q2 q3) q4.line X.env = pure false) (hw : swappedStores [t] (popCall q1 q2 q3) X.env = pure none)
    (h : Q .next ⟨σ.mem, fun y => if y = Str.ofString "fault" then none else σ.loc y⟩) :
    AX X (.Try [.Assign [t] (popCall q1 q2 q3) q4] [.ExceptHandler (some (.Name (Str.ofString "IndexError") q5)) (some (Str.ofString "fault")) [.If (faultTest q6 q7 q8 q9 q10 q11 q12 q13 q14 k) thenB [] q15] q16] [] [] pos) σ Q := fun s R => by
  have hheap' : σ.loc (Str.ofString "heap") = some (.ref a) := hheap
  refine wpAny_Try_except ?_
  refine wpAny_execs_cons ?_
  refine wpAny_Assign_stores ?_ hs hw
  refine PyProof.Rows.Call_ (name_global ok R hk (by decide) FN.glob ?_)
  refine PyProof.Rows.callWith_def (o := o) (fd := fd) FN.data ?_ (by rfl)
  refine wpAny_items_cons ?_ (by rfl)
  refine wpAny_Name (load_name ok R hheap fun v rv => wpAny_items_nil ⟨R.keep _ _ FN.get, ?_⟩) (by decide)
  obtain rfl : v = .ref a := by cases rv; rfl
  refine enter_def ok FN R (Vs := [.ref a]) (.cons (.ref a) .nil) rfl ?_
  intro X' h₁ tk eB eA eFr eS hL' hk₁ ok' R'
  have eM : X.M = X'.M := by show model X.B.prog X.B.w = model X'.B.prog X'.B.w; rw [eB]
  rw [hb]
  refine wpAny_execs_cons ?_
  refine wpAny_Assign_stores ?_ (by with_unfolding_all rfl) (by with_unfolding_all rfl)
  rw [eM]
  obtain ⟨pl, hpl⟩ := hev X'
  refine MethodCall_ ?_ hpl
  refine wpAny_Name (load_name ok' R' (V := .ref a) rfl fun v rv => ?_) (by decide)
  obtain rfl : v = .ref a := by cases rv; rfl
  obtain ⟨items, kk, e1, rvs⟩ := R'.isL (a := a) (vs := []) hm
  obtain rfl : items = [] := by
    have := rvs.length
    simpa using this
  refine getMethod_list_of F.slot_list_pop F.type_list_pop (PySem.IsL.isList e1) (noDictL e1) ?_
  refine pop_empty e1 ok'.handled fun h' tk' e u hx => ?_
  have hfr' : X'.A.frames = some (X'.env :: [X.env]) := by rw [eA]; exact Around.frames_deeper hfr
  obtain ⟨mL', ⟨oL', esL', epL', hoL', hdL', _⟩, _⟩ := id R'.env
  obtain ⟨mL, ⟨oL, esL, epL, hoL, hdL, hrL⟩, hmL, _⟩ := id R.env
  have newB : ∀ b ob, s.heap.get? b = some ob → b ≠ X.f.L → (hideAll h₁ [X'.f.L, X.f.L]).get? b = some ob := fun b ob e q => hideAll_get _ (hk₁ b ob e) (by
    intro z
    rcases List.mem_cons.mp z with z | z
    · rw [z, hL'] at e; cases e
    · exact q (by simpa using z))
  refine wpAny_leaves_madeW (base := hideAll h₁ [X'.f.L, X.f.L]) hfr' eFr (fun b ob q => of_hideAll _ q) ?_ hx.of fun h'' t' hfly htup hbt hup => ?_
  · refine ⟨by rw [show X'.env.scope.kind = X'.sc.kind from rfl, ok'.kind]; decide, ⟨X'.f.L, oL', eFr, hideAll_none _ (by simp), hoL', fun vs q => by rw [hdL'] at q; cases q⟩,
      by rw [show X.env.scope.kind = X.sc.kind from rfl, ok.kind]; decide, ⟨X.f.L, oL, hfl, hideAll_none _ (by simp), hk₁ _ _ hoL, fun vs q => by rw [hdL] at q; cases q⟩, trivial⟩
  have nsUp : ∀ (g g' : Heap) m, Heap.UpToSlots g g' → g.Ns X.f.L m → g'.Ns X.f.L m := fun g g' m q z => q.ns z
  refine wpAny_looks_onW hfr hfl hfly fun h₄ hheld₄ hsm₄ => ?_
  refine wpAny_landsW hheld₄ fun h₅ hfly₅ hsm₅ => ?_
  have ns₅ : ∀ m, s.heap.Ns X.f.L m → h₅.Ns X.f.L m := fun m z => hsm₅.ns (hsm₄.ns (hup.ns ((z.keeps hk₁).keeps hx.keeps)))
  have R₅ := fun tk => (R.turn (tk := tk) ok.newL (fun b ob e q => hfly₅.1 b ob (newB b ob e q)) ns₅).1
  obtain ⟨ob, hob, hobc⟩ := hfly₅.there
  refine wpAny_handleBy_builtin_as (X := "IndexError") (T := "IndexError") (b := true) (by rw [isSubtype_type]; kernel_rfl) (by rw [isSubtype_type]; kernel_rfl) (by rw [isSubtype_type]; kernel_rfl) ?_
  have nameB : ∀ {x : Str} {v : Value} {qp : Pos} {A' : Around} {E' : Value → Shared → Prop} {Q' : Value → Shared → Prop} {σ' : St} {s' : Shared}, BName X x v → Rep X σ' s' → Q' v s' → wpAny X.M A' (eval (.Name x qp) X.env) Q' E' s' := fun N R' hq =>
    Name_function_global ok.kind N.kind (loadGlobal_builtin (ok.base.g.keeps R'.keep) N.free (ok.base.b.keeps R'.keep) ((ok.base.boot _ N.ne).trans N.boot) hq) N.dbg
  refine nameB N (R₅ _) ⟨rfl, ⟨ob, hob, hobc⟩, ?_⟩
  rw [if_pos rfl]
  refine lands_againW hfly₅ fun h₆ hfly₆ hsm₆ => ?_
  have ns₆ : ∀ m, s.heap.Ns X.f.L m → h₆.Ns X.f.L m := fun m z => hsm₆.ns (ns₅ m z)
  have T₆ := fun tk => (R.turn (tk := tk) ok.newL (fun b ob e q => hfly₆.1 b ob (newB b ob e q)) ns₆)
  obtain ⟨oe, ws, hoe, hoec, hoed, hoe0⟩ := hfly₆.first
  have htup₆ := (((htup.of_slots hsm₄).of_slots hsm₅).of_slots hsm₆)
  have pk : (X.env.scope.kind == .class || (X.env.scope.kind == .module && X.env.locals != X.env.globals)) = false := by
    show (X.sc.kind == .class || (X.sc.kind == .module && _)) = false; rw [ok.kind]; rfl
  have R₆ := (T₆ tk').1
  obtain ⟨m₆, hn₆, hL₆, hc₆, hl₆⟩ := id R₆.env
  refine wpAny_storeName_local hfk hn₆ (fun h₇ hn₇ hs₇ => ?_) pk
  have S₇ := R₆.setL (t := tk' + 1) hn₆ hl₆ hfk (by decide) (.ref e) ok.newL hn₇ hs₇
  have R₇ := S₇.1
  have hoeL : e ≠ X.f.L := fun q => by
    obtain ⟨o7, _, _, e7, d7, _⟩ := hn₆
    rw [q] at hoe
    have : oe = o7 := Option.some.inj (hoe.symm.trans e7)
    rw [this, d7] at hoed; cases hoed
  have exc₇ : h₇.ExcAt e "IndexError" (.ref t') := ⟨oe, ws, hs₇.extBut _ _ hoeL hoe, hoec, hoed, hoe0⟩
  have tup₇ : h₇.TupAt t' [.str popSaid u] := by
    obtain ⟨ot, nt, hot, hotc, hotd⟩ := htup₆
    refine ⟨ot, nt, hs₇.extBut _ _ (fun q => ?_) hot, hotc, hotd⟩
    obtain ⟨o7, _, _, e7, d7, _⟩ := hn₆
    rw [q] at hot
    have : ot = o7 := Option.some.inj (hot.symm.trans e7)
    rw [this, d7] at hotd; cases hotd
  refine wpAny_execs_cons (wpAny_If ?_)
  refine wpAny_isTrue_BoolOp (wpAny_allTrue_Or_cons ?_)
  refine wpAny_isTrue_Compare1 ?_ rfl
  refine PyProof.Rows.Call_ (nameB Ns R₇ ?_)
  refine PyProof.Rows.callWith_type (by rfl) (evalArgs_plain ?_)
  show wpAny X.M (X.A.mark (some (.ref e))) (spliced (backTo q8 (starEach [.Name (Str.ofString "fault") q7] X.env))) _ _ _
  refine wpAny_items_cons ?_ (by rfl)
  refine wpAny_Name (wpAny_loadName_local (v := .ref e) ok.kind hfk hn₇ (if_pos rfl) (wpAny_items_nil ?_)) (by decide)
  refine P.str_of_exc_one F.excStr_IndexError (by have := ok.units; show X.A.units + 2 < _; (first | lia | omega)) exc₇ tup₇ ?_
  refine wpAny_Constant_str ?_
  refine ne_str ?_
  rw [show (popSaid != popSaid) = false from by decide +kernel]
  refine wpAny_truthy_bool ?_
  rw [if_neg (by decide)]
  have R₈ := (R₇.toks (t := tk' + 1 + 1)).1
  refine wpAny_allTrue_Or_cons ?_
  refine wpAny_isTrue_Compare1 ?_ rfl
  refine wpAny_Name (load_any ok R₈ (V := .ref a) (loc_miss (by decide) hheap) fun v rv => ?_) (by decide)
  refine wpAny_List (wpAny_items_nil ⟨by simp, ?_⟩)
  have M₉ := made_frozen (t := tk' + 1 + 1) (items := []) (Vs := []) R₈ (heap_top_none _) (fun b o e => Heap.get?_push_of_some _ e) (Heap.get?_push_size (o := { cls := .type "list", data := .seq #[] }) _ rfl) .nil
  obtain ⟨rn, R₉, x₉⟩ := M₉
  obtain ⟨as, qa⟩ := (View.ref (σ := σ.set (Str.ofString "fault") (.ref e)) (a := a) (vs := []) hm).reads (n := 8) R₉ (x₉.rv R₈ rv) pureNil
  obtain ⟨bs, qb⟩ := (View.self (σ := σ.set (Str.ofString "fault") (.ref e)) (A := .lst [])).reads (n := 8) R₉ rn pureNil
  refine ne_dataH qa qb (shaped_of (by decide) pureNil) (shaped_of (by decide) pureNil) (by have := ok.units; show X.A.units + _ < _; (first | lia | omega)) ?_
  rw [show (!PyData.eqv (kqdP (Val.lst []).dat) (kqdP (Val.lst []).dat)) = false from by rw [(eqv_iff pureNil pureNil).mpr rfl]; rfl]
  refine wpAny_truthy_bool ?_
  rw [if_neg (by decide)]
  refine wpAny_allTrue_Or_nil ?_
  rw [if_neg (by decide)]
  refine wpAny_execs_nil (wpAny_execs_nil ?_)
  obtain ⟨m₉, hn₉, hL₉, hc₉, hl₉⟩ := id R₉.env
  refine wpAny_nameGoes_keeps hfk hn₉ pk fun h₁₀ u hn₁₀ hs₁₀ => ?_
  have S₁₀ := R₉.unset (tk := tk' + 1 + 1 + 1) ok.newL hL₉ hc₉ hl₉ hn₁₀ hs₁₀
  have eσ : (⟨(σ.set (Str.ofString "fault") (.ref e)).mem, fun y => if y = Str.ofString "fault" then none else (σ.set (Str.ofString "fault") (.ref e)).loc y⟩ : St) = ⟨σ.mem, fun y => if y = Str.ofString "fault" then none else σ.loc y⟩ := by
    show (⟨σ.mem, _⟩ : St) = ⟨σ.mem, _⟩
    congr 1
    funext y
    by_cases q : y = Str.ofString "fault"
    · simp [q]
    · simp [q, St.set_loc]
  rw [eσ] at S₁₀
  have x₆ := (T₆ tk').2
  have x₇ := x₆.trans R₆ S₇.2
  have x₈ := x₇.trans R₇ (R₇.toks (t := tk' + 1 + 1)).2
  exact ⟨.next, _, .next, S₁₀.1, ((x₈.trans R₈ x₉).trans R₉ S₁₀.2), h⟩
end
end Mine
end
section
open PySem PySem.W PyProof.Rows PySem.Calls
set_option maxRecDepth 100000
namespace Mine
def CallDF (B : Base) (n : Nat) (params : List Str) (body : List Stmt) (sc : Scope) (Vs : List Val) (σ : St) (Q : Val → St → Prop) : Prop :=
  ∀ A L qual fa code, (⟨B, A, fnFm L qual fa code sc, sc⟩ : Cx).Ok n → A.frames = some [(fnFm L qual fa code sc).env sc] → AS ⟨B, A, fnFm L qual fa code sc, sc⟩ body (σ.enter params Vs) (fun fl σ' => Q fl.val (σ.back σ'))
theorem call_topF {B : Base} (bok : B.Ok) {A : Around} {n : Nat} (hA : A.handled = none) (hfr : A.frames = some []) (hdep : A.depth + 1 + n < recursionLimit) (hu : A.units + 3 + 10 * n + 100 < cLine)
    {name : Str} {params : List Str} {body : List Stmt} {sc : Scope} {fa : Addr} {fd : FuncData} {o : Obj} (F : FnAt B name params body sc fa fd o) {Vs : List Val} {vs : List Value} {s : Shared} {Q : Val → St → Prop}
    (hh : s.heap = B.h₁) (hg : s.gens = #[]) (hos : s.os = B.os) (rvs : RVs s.heap (fun _ => none) vs Vs) (hl : Vs.length = params.length) (h : CallDF B n params body sc Vs noSt Q) :
    wpAny (model B.prog B.w) A (call (.ref fa) vs) (fun v s' => ∃ V σ' mem, RV s'.heap mem v V ∧ Q V σ' ∧ (∀ b o, s.heap.get? b = some o → s'.heap.get? b = some o) ∧ s'.os = s.os ∧ s'.gens = #[]) (fun _ _ => False) s := by
  refine wpAny_call ?_
  have keep : ∀ b o, B.h₁.get? b = some o → s.heap.get? b = some o := fun b o e => by rw [hh]; exact e
  have hvl : vs.length = params.length := rvs.length.trans hl
  refine codeAny_call_cells (body := body) (binds := params.zip vs) (by (first | lia | omega)) (keep _ _ F.get) F.data (bok.lim.keeps keep) (F.code.keeps keep) F.body (F.bind vs hvl) F.clo ?_ ?_ (by rw [F.scope]; exact F.co) (by rw [F.scope]; exact F.gen) (by rw [F.scope]; exact F.kind)
  · intro x hx
    have hm : x.1 ∈ params := by
      obtain ⟨a, b⟩ := x
      exact (List.of_mem_zip hx).1
    rw [F.scope]
    rcases (F.kinds _ hm).2 with k | k
    · exact .inl k
    · exact .inr ⟨k, cellsFrom_some' k⟩
  · intro s₁ C
    have eE : callEnvC fd s.heap.objs.size fa = (fnFm s.heap.objs.size (fd.qualname ++ ".<locals>.") fa fd.code sc).env sc := by
      simp only [callEnvC, newEnv, Fm.env, fnFm, F.scope, F.globals, F.builtins]
    rw [eE] at C ⊢
    generalize hX' : (⟨B, A.deeper ((fnFm s.heap.objs.size (fd.qualname ++ ".<locals>.") fa fd.code sc).env sc), fnFm s.heap.objs.size (fd.qualname ++ ".<locals>.") fa fd.code sc, sc⟩ : Cx) = X'
    have eB : X'.B = B := by rw [← hX']
    have eA : X'.A = A.deeper ((fnFm s.heap.objs.size (fd.qualname ++ ".<locals>.") fa fd.code sc).env sc) := by rw [← hX']
    have eF : X'.f = fnFm s.heap.objs.size (fd.qualname ++ ".<locals>.") fa fd.code sc := by rw [← hX']
    have eS : X'.sc = sc := by rw [← hX']
    have eL : X'.f.L = s.heap.objs.size := by rw [eF]; rfl
    have eC : X'.f.cells = cellsFrom (s.heap.objs.size + 1) sc.names [] := by rw [eF]; rfl
    have eO : X'.f.own = (cellsFrom (s.heap.objs.size + 1) sc.names []).map (·.2) := by rw [eF]; rfl
    have above : ∀ c ∈ X'.f.own, s.heap.objs.size < c := by
      intro c hc
      rw [eO] at hc
      obtain ⟨⟨y, c'⟩, hm, rfl⟩ := List.mem_map.mp hc
      exact C.above y c' hm
    have notlive : ∀ c, s.heap.objs.size ≤ c → B.h₁.get? c = none := fun c hc => by rw [← hh]; exact Heap.get?_none_of_le hc
    have ok' : X'.Ok n := by
      refine ⟨eB ▸ bok, eS ▸ F.kind, ?_, ?_, ?_, ?_, ?_, ?_⟩
      · rw [eA]; exact hA
      · rw [eA]; show A.depth + 1 + n < _; exact hdep
      · rw [eA]; show A.units + 3 + 10 * n + 100 < _; exact hu
      · rw [eB, eL]; exact notlive _ (Nat.le_refl _)
      · intro c hc
        refine ⟨?_, by rw [eL]; exact Nat.ne_of_gt (above c hc)⟩
        rw [eB]; exact notlive c (Nat.le_of_lt (above c hc))
      · intro x y c hx hy
        rw [eC] at hx hy
        exact name_of_addr C.apart (mem_of_lookup hx) (mem_of_lookup hy)
    obtain ⟨h₁, tk₁, rfl, hk₁⟩ := C.done
    have R' : Rep X' (noSt.enter params Vs) { s with heap := h₁, toks := tk₁ } := by
      refine ⟨fun b o e => hk₁ b o (keep b o (by rw [← eB]; exact e)), hg, by rw [eB]; exact hos, (fun a bx e => nomatch e), ?_⟩
      refine ⟨_, eL ▸ C.toInCall.ns, rfl, fun c hc => ?_, fun x V hx => ?_⟩
      · replace hc : c ∈ X'.f.own := hc.elim id fun ⟨x, hx⟩ => by rw [eC] at hx; rw [eO]; exact List.mem_map.mpr ⟨(x, c), hx, rfl⟩
        refine ⟨rfl, ?_⟩
        rw [eO] at hc
        obtain ⟨⟨y, c'⟩, hm, rfl⟩ := List.mem_map.mp hc
        have nd : ((cellsFrom (s.heap.objs.size + 1) sc.names []).map (·.1)).Nodup := by
          rw [← cellsFrom_names sc.names 0 (s.heap.objs.size + 1) [] [] rfl]; exact F.cellNd
        exact ⟨_, C.cell y c' (lookup_of_mem_nodup nd hm)⟩
      · obtain ⟨v, hv, rv⟩ := zip_lookup rvs hx
        have hmem := zip_lookup_mem hx
        have nd : ((params.zip vs).map (·.1)).Nodup := by
          rw [List.map_fst_zip (by (first | lia | omega))]; exact F.nodup
        refine ⟨(F.kinds x hmem).1, v, rv.mono fun b o e _ _ => ⟨hk₁ b o e, rfl⟩, ?_⟩
        have ek : X'.env.kindOf x = sc.names.lookup x := by
          show X'.sc.names.lookup x = _; rw [eS]
        rcases (F.kinds x hmem).2 with k | k
        · exact .inl ⟨ek.trans k, bindL_in _ _ x v nd hv k⟩
        · obtain ⟨c, hc⟩ := Option.isSome_iff_exists.mp (cellsFrom_some' (n := s.heap.objs.size + 1) k)
          refine .inr ⟨c, eC ▸ hc, ?_, rfl, .inl (ek.trans k)⟩
          have q := C.cell x c hc
          rw [bindC_in _ _ x v nd hv (by show sc.names.lookup x ≠ _; rw [k]; decide)] at q
          exact q
    have eX : (⟨B, X'.A, fnFm X'.f.L (fd.qualname ++ ".<locals>.") fa fd.code sc, sc⟩ : Cx) = X' := by rw [eL, ← hX']
    have hc := h X'.A X'.f.L (fd.qualname ++ ".<locals>.") fa fd.code (by rw [eX]; exact ok') (by rw [eA, eL]; exact Around.frames_deeper hfr)
    rw [eX] at hc
    have hw := hc _ R'
    rw [show (model B.prog B.w) = X'.M from by rw [← hX'], ← eA, show (fnFm s.heap.objs.size (fd.qualname ++ ".<locals>.") fa fd.code sc).env sc = X'.env from by rw [← hX']]
    refine wpAny_mono hw ?_ fun _ _ e => e.elim
    rintro f s' ⟨fl, σ', rf, R'', x', q⟩
    refine ⟨fl.val, _, σ'.mem, ?_, q, fun b o e => R''.keep b o (by rw [eB, ← hh]; exact e), by rw [R''.os, eB, hos], R''.gens⟩
    cases rf with
    | ret r => exact r
    | next => exact .none
    | brk => exact .none
    | cont => exact .none

end Mine
end
section
set_option maxRecDepth 100000
namespace Mine
/-! greatest first -/
def Lt (x y : El) : Prop := lexLt x y = true
theorem Lt.trans {x y z : El} (h : Lt x y) (h' : Lt y z) : Lt x z := lex_trans h h'
theorem Lt.ne {x y : El} (h : Lt x y) : x ≠ y := fun e => by subst e; rw [Lt, lex_irrefl] at h; cases h
theorem Ge.lt_of_ne {x y : El} (h : Ge x y) (hn : x ≠ y) : Lt y x := by
  unfold Lt
  cases e : lexLt y x with
  | true => rfl
  | false => exact absurd (lex_total h e) hn
/-- strictly falling -/
def Desc (D : List El) : Prop := D.Pairwise fun x y => Lt y x
def ins (x : El) : List El → List El
  | [] => [x]
  | d :: D => if lexLt d x = true then x :: d :: D else d :: ins x D
theorem ins_perm (x : El) : ∀ D : List El, (ins x D).Perm (D ++ [x])
  | [] => .refl _
  | d :: D => by
    unfold ins
    split
    · exact (List.perm_append_comm (l₁ := [x]) (l₂ := d :: D))
    · exact (ins_perm x D).cons d
theorem ins_last {x y : El} (h : Lt x y) : ∀ D : List El, (∀ d ∈ D, Lt x d) → ins y (D ++ [x]) = ins y D ++ [x]
  | [], _ => by
    have : lexLt x y = true := h
    simp [ins, this]
  | d :: D, hd => by
    show ins y (d :: (D ++ [x])) = _
    unfold ins
    split
    · rfl
    · rw [ins_last h D fun e he => hd e (.tail _ he)]; rfl
theorem ins_low {x : El} : ∀ D : List El, (∀ d ∈ D, Lt x d) → ins x D = D ++ [x]
  | [], _ => rfl
  | d :: D, hd => by
    unfold ins
    have : lexLt d x = false := lex_asymm (hd d (.head _))
    rw [this]
    simp [ins_low D fun e he => hd e (.tail _ he)]
theorem ins_desc {x : El} : ∀ {D : List El}, Desc D → x ∉ D → Desc (ins x D)
  | [], _, _ => List.pairwise_singleton _ _
  | d :: D, h, hx => by
    obtain ⟨h1, h2⟩ := List.pairwise_cons.mp h
    unfold ins
    split
    · rename_i q
      refine List.pairwise_cons.mpr ⟨fun y hy => ?_, h⟩
      rcases List.mem_cons.mp hy with rfl | hy
      · exact q
      · exact (h1 y hy).trans q
    · rename_i q
      have q' : lexLt d x = false := by simpa using q
      refine List.pairwise_cons.mpr ⟨fun y hy => ?_, ins_desc h2 fun z => hx (.tail _ z)⟩
      rcases List.mem_append.mp ((ins_perm x D).mem_iff.mp hy) with hy | hy
      · exact h1 y hy
      · have : y = x := by simpa using hy
        subst this
        exact Ge.lt_of_ne q' (fun e => hx (e ▸ .head _))
theorem desc_uniq : ∀ {a b : List El}, a.Perm b → a.Pairwise Ge → b.Pairwise Ge → a = b
  | [], b, p, _, _ => (List.nil_perm.mp p).symm
  | x :: r, [], p, _, _ => absurd p.length_eq (by simp)
  | x :: r, y :: s, p, h1, h2 => by
    have hx : x = y := by
      rcases List.mem_cons.mp (p.mem_iff.mp (.head _)) with e | e
      · exact e
      · rcases List.mem_cons.mp (p.mem_iff.mpr (.head _)) with e' | e'
        · exact e'.symm
        · exact lex_total ((List.pairwise_cons.mp h1).1 y e') ((List.pairwise_cons.mp h2).1 x e)
    subst hx
    rw [desc_uniq ((List.perm_cons x).mp p) (List.pairwise_cons.mp h1).2 (List.pairwise_cons.mp h2).2]
theorem Desc.ge {D : List El} (h : Desc D) : D.Pairwise Ge := h.imp fun h => lex_asymm h

/-- the calls, of those that come in just the ones of p -/
def run (p : El → Bool) : List (Option El) → List El → List (Option El) × List El
  | [], D => ([], D)
  | some x :: r, D => let q := run p r (if p x = true then ins x D else D); (none :: q.1, q.2)
  | none :: r, D => let q := run p r D.tail; (D.head? :: q.1, q.2)
theorem run_len (p : El → Bool) : ∀ (r : List (Option El)) (D : List El), (run p r D).1.length = r.length
  | [], _ => rfl
  | some x :: r, D => by simp [run, run_len p r]
  | none :: r, D => by simp [run, run_len p r]
theorem run_append (p : El → Bool) : ∀ (a r : List (Option El)) (D : List El), run p (a ++ r) D = ((run p a D).1 ++ (run p r (run p a D).2).1, (run p r (run p a D).2).2)
  | [], _, _ => rfl
  | some x :: a, r, D => by simp [run, run_append p a r]
  | none :: a, r, D => by simp [run, run_append p a r]
theorem run_congr {p q : El → Bool} : ∀ (r : List (Option El)) (D : List El), (∀ x, some x ∈ r → p x = q x) → run p r D = run q r D
  | [], _, _ => rfl
  | some x :: r, D, h => by
    simp only [run]
    rw [h x (.head _), run_congr r _ fun y hy => h y (.tail _ hy)]
  | none :: r, D, h => by
    simp only [run]
    rw [run_congr r _ fun y hy => h y (.tail _ hy)]

theorem free_lemma {x : El} {p : El → Bool} : ∀ (r : List (Option El)) (D : List El), (∀ d ∈ D, Lt x d) → (∀ y, some y ∈ r → p y = true → Lt x y) →
    (∃ k, k < r.length ∧ r[k]? = some none ∧ (run p r D).1[k]? = some none ∧ (∀ j, j < k → ¬ (r[j]? = some none ∧ (run p r D).1[j]? = some none)) ∧ run p r (D ++ [x]) = ((run p r D).1.set k (some x), (run p r D).2)) ∨
    ((∀ j, j < r.length → ¬ (r[j]? = some none ∧ (run p r D).1[j]? = some none)) ∧ run p r (D ++ [x]) = ((run p r D).1, (run p r D).2 ++ [x]))
  | [], D, _, _ => .inr ⟨fun j hj => by simp at hj, rfl⟩
  | some y :: r, D, hD, hr => by
    have hD' : ∀ d ∈ (if p y = true then ins y D else D), Lt x d := fun d hd => by
      split at hd
      · rename_i q
        rcases List.mem_append.mp ((ins_perm y D).mem_iff.mp hd) with z | z
        · exact hD d z
        · have : d = y := by simpa using z
          subst this; exact hr d (.head _) q
      · exact hD d hd
    have e : (if p y = true then ins y (D ++ [x]) else D ++ [x]) = (if p y = true then ins y D else D) ++ [x] := by
      split
      · rename_i q; exact ins_last (hr y (.head _) q) D hD
      · rfl
    rcases free_lemma r _ hD' (fun z hz => hr z (.tail _ hz)) with ⟨k, k1, k2, k3, k4, k5⟩ | ⟨k1, k2⟩
    · refine .inl ⟨k + 1, by simpa using k1, by simpa using k2, by simpa [run] using k3, fun j hj => ?_, ?_⟩
      · cases j with
        | zero => simp
        | succ j => simpa [run] using k4 j (by (first | lia | omega))
      · simp only [run, e, k5, List.set_cons_succ]
    · refine .inr ⟨fun j hj => ?_, ?_⟩
      · cases j with
        | zero => simp
        | succ j => simpa [run] using k1 j (by simpa using hj)
      · simp only [run, e, k2]
  | none :: r, [], hD, hr => by
    refine .inl ⟨0, by simp, rfl, rfl, fun j hj => by (first | lia | omega), ?_⟩
    simp [run]
  | none :: r, d :: D, hD, hr => by
    rcases free_lemma r D (fun e he => hD e (.tail _ he)) (fun z hz => hr z (.tail _ hz)) with ⟨k, k1, k2, k3, k4, k5⟩ | ⟨k1, k2⟩
    · refine .inl ⟨k + 1, by simpa using k1, by simpa using k2, by simpa [run] using k3, fun j hj => ?_, ?_⟩
      · cases j with
        | zero => simp [run]
        | succ j => simpa [run] using k4 j (by (first | lia | omega))
      · simp only [run, List.cons_append, List.tail_cons, List.head?_cons, k5, List.set_cons_succ]
    · refine .inr ⟨fun j hj => ?_, ?_⟩
      · cases j with
        | zero => simp [run]
        | succ j => simpa [run] using k1 j (by simpa using hj)
      · simp only [run, List.cons_append, List.tail_cons, List.head?_cons, k2]

/-- what one more, lower than those so far, changes -/
theorem run_more {calls : List (Option El)} {S : List El} {x : El} {i : Nat} (hi : calls[i]? = some (some x)) (hu : ∀ j, calls[j]? = some (some x) → j = i) (hS : ∀ y ∈ S, Lt x y) :
    (∃ k, i < k ∧ k < calls.length ∧ calls[k]? = some none ∧ (run (fun y => decide (y ∈ S)) calls []).1[k]? = some none ∧ (∀ j, i < j → j < k → ¬ (calls[j]? = some none ∧ (run (fun y => decide (y ∈ S)) calls []).1[j]? = some none)) ∧
      run (fun y => decide (y ∈ S ++ [x])) calls [] = ((run (fun y => decide (y ∈ S)) calls []).1.set k (some x), (run (fun y => decide (y ∈ S)) calls []).2)) ∨
    ((∀ j, i < j → j < calls.length → ¬ (calls[j]? = some none ∧ (run (fun y => decide (y ∈ S)) calls []).1[j]? = some none)) ∧
      run (fun y => decide (y ∈ S ++ [x])) calls [] = ((run (fun y => decide (y ∈ S)) calls []).1, (run (fun y => decide (y ∈ S)) calls []).2 ++ [x])) := by
  have hlt := (List.getElem?_eq_some_iff.mp hi).1
  have hxS : x ∉ S := fun z => (hS x z).ne rfl
  have split : calls = calls.take i ++ some x :: calls.drop (i + 1) := by
    have e := (List.getElem?_eq_some_iff.mp hi).2
    rw [← e, ← List.drop_eq_getElem_cons hlt]; exact (List.take_append_drop _ _).symm
  have other : ∀ y : El, y ≠ x → decide (y ∈ S ++ [x]) = decide (y ∈ S) := fun y hy => by simp [hy]
  have nA : ∀ y, some y ∈ calls.take i → y ≠ x := fun y hy e => by
    subst e
    obtain ⟨j, hj⟩ := List.mem_iff_getElem?.mp hy
    rw [List.getElem?_take] at hj
    split at hj
    · have := hu j hj; (first | lia | omega)
    · cases hj
  have nB : ∀ y, some y ∈ calls.drop (i + 1) → y ≠ x := fun y hy e => by
    subst e
    obtain ⟨j, hj⟩ := List.mem_iff_getElem?.mp hy
    rw [List.getElem?_drop] at hj
    have := hu _ hj; (first | lia | omega)
  have mem : ∀ (r : List (Option El)) (D : List El), (∀ d ∈ D, Lt x d) → ∀ d ∈ (run (fun y => decide (y ∈ S)) r D).2, Lt x d := by
    intro r
    induction r with
    | nil => intro D hD; exact hD
    | cons c r ih =>
      intro D hD
      cases c with
      | none => exact ih _ fun d hd => hD d (List.mem_of_mem_tail hd)
      | some y =>
        refine ih _ fun d hd => ?_
        split at hd
        · rename_i q
          rcases List.mem_append.mp ((ins_perm y D).mem_iff.mp hd) with z | z
          · exact hD d z
          · have : d = y := by simpa using z
            subst this; exact hS d (by simpa using q)
        · exact hD d hd
  have hDA := mem (calls.take i) [] (by simp)
  generalize hA : run (fun y => decide (y ∈ S)) (calls.take i) [] = RA at hDA
  have eA : run (fun y => decide (y ∈ S ++ [x])) (calls.take i) [] = RA := by
    rw [← hA]; exact run_congr _ _ fun y hy => other y (nA y hy)
  have lA : RA.1.length = i := by
    rw [← hA, run_len, List.length_take]; (first | lia | omega)
  have e1 : run (fun y => decide (y ∈ S)) calls [] = (RA.1 ++ none :: (run (fun y => decide (y ∈ S)) (calls.drop (i + 1)) RA.2).1, (run (fun y => decide (y ∈ S)) (calls.drop (i + 1)) RA.2).2) := by
    conv => lhs; rw [split]
    rw [run_append, hA]
    simp [run, hxS]
  have e2 : run (fun y => decide (y ∈ S ++ [x])) calls [] = (RA.1 ++ none :: (run (fun y => decide (y ∈ S)) (calls.drop (i + 1)) (RA.2 ++ [x])).1, (run (fun y => decide (y ∈ S)) (calls.drop (i + 1)) (RA.2 ++ [x])).2) := by
    conv => lhs; rw [split]
    rw [run_append, eA]
    simp only [run]
    rw [if_pos (by simp), ins_low RA.2 hDA]
    rw [run_congr (p := fun y => decide (y ∈ S ++ [x])) (q := fun y => decide (y ∈ S)) (calls.drop (i + 1)) (RA.2 ++ [x]) fun y hy => other y (nB y hy)]
  have gr : ∀ j, (RA.1 ++ none :: (run (fun y => decide (y ∈ S)) (calls.drop (i + 1)) RA.2).1)[i + 1 + j]? = (run (fun y => decide (y ∈ S)) (calls.drop (i + 1)) RA.2).1[j]? := fun j => by
    rw [List.getElem?_append_right (by (first | lia | omega)), show i + 1 + j - RA.1.length = j + 1 by (first | lia | omega), List.getElem?_cons_succ]
  rcases free_lemma (x := x) (p := fun y => decide (y ∈ S)) (calls.drop (i + 1)) RA.2 hDA (fun y _ hy => hS y (by simpa using hy)) with ⟨k, k1, k2, k3, k4, k5⟩ | ⟨k1, k2⟩
  · left
    rw [List.length_drop] at k1
    refine ⟨i + 1 + k, by (first | lia | omega), by (first | lia | omega), by rw [List.getElem?_drop] at k2; exact k2, by rw [e1]; show (RA.1 ++ none :: _)[i + 1 + k]? = _; rw [gr]; exact k3, fun j hj1 hj2 => ?_, ?_⟩
    · have := k4 (j - (i + 1)) (by (first | lia | omega))
      rw [List.getElem?_drop, show i + 1 + (j - (i + 1)) = j by (first | lia | omega)] at this
      rw [e1]
      show ¬ (_ ∧ (RA.1 ++ none :: _)[j]? = _)
      have g := gr (j - (i + 1))
      rw [show i + 1 + (j - (i + 1)) = j by (first | lia | omega)] at g
      rw [g]; exact this
    · rw [e1, e2, k5]
      show (RA.1 ++ none :: (List.set _ k (some x)), _) = ((RA.1 ++ none :: _).set (i + 1 + k) (some x), _)
      rw [List.set_append_right _ _ (by (first | lia | omega)), show i + 1 + k - RA.1.length = k + 1 by (first | lia | omega), List.set_cons_succ]
  · right
    refine ⟨fun j hj1 hj2 => ?_, ?_⟩
    · have := k1 (j - (i + 1)) (by rw [List.length_drop]; (first | lia | omega))
      rw [List.getElem?_drop, show i + 1 + (j - (i + 1)) = j by (first | lia | omega)] at this
      rw [e1]
      show ¬ (_ ∧ (RA.1 ++ none :: _)[j]? = _)
      have g := gr (j - (i + 1))
      rw [show i + 1 + (j - (i + 1)) = j by (first | lia | omega)] at g
      rw [g]; exact this
    · rw [e1, e2, k2]
end Mine
end
section
set_option maxRecDepth 100000
namespace Mine
theorem run_none (p : El → Bool) : ∀ (r : List (Option El)), (∀ x, some x ∈ r → p x = false) → run p r [] = (List.replicate r.length none, [])
  | [], _ => rfl
  | some x :: r, h => by
    simp only [run, h x (.head _)]
    rw [if_neg (by decide), run_none p r fun y hy => h y (.tail _ hy)]; rfl
  | none :: r, h => by
    simp only [run, List.tail_nil, List.head?_nil]
    rw [run_none p r fun y hy => h y (.tail _ hy)]; rfl
theorem run_small (p : El → Bool) : ∀ (r : List (Option El)) (D : List El), (run p r D).2.length ≤ r.length + D.length
  | [], D => by simp [run]
  | some x :: r, D => by
    have := run_small p r (if p x = true then ins x D else D)
    have h2 : (if p x = true then ins x D else D).length ≤ D.length + 1 := by
      split
      · rw [(ins_perm x D).length_eq]; simp
      · (first | lia | omega)
    simp only [run, List.length_cons]; (first | lia | omega)
  | none :: r, D => by
    have := run_small p r D.tail
    have h2 : D.tail.length ≤ D.length := by simp
    simp only [run, List.length_cons]; (first | lia | omega)
/-- each that comes says which call it is -/
def Said (calls : List (Option El)) : Prop := ∀ (i : Nat) (x : El), calls[i]? = some (some x) → ∃ v, x = [v, -(i : Int)]
theorem Said.uniq {calls : List (Option El)} (h : Said calls) {i j : Nat} {x : El} (hi : calls[i]? = some (some x)) (hj : calls[j]? = some (some x)) : j = i := by
  obtain ⟨v, e⟩ := h i x hi
  obtain ⟨w, e'⟩ := h j x hj
  rw [e] at e'
  injection e' with _ e'
  injection e' with e' _
  (first | lia | omega)
theorem said_nodup : ∀ (calls : List (Option El)) (o : Nat), (∀ (i : Nat) (x : El), calls[i]? = some (some x) → ∃ v, x = [v, -((o + i : Nat) : Int)]) → (calls.filterMap id).Nodup
  | [], _, _ => List.nodup_nil
  | none :: r, o, h => by
    show (r.filterMap id).Nodup
    exact said_nodup r (o + 1) fun i x hi => by
      have := h (i + 1) x (by simpa using hi)
      rwa [show o + (i + 1) = o + 1 + i by (first | lia | omega)] at this
  | some y :: r, o, h => by
    show (y :: r.filterMap id).Nodup
    refine List.nodup_cons.mpr ⟨fun hy => ?_, said_nodup r (o + 1) fun i x hi => ?_⟩
    · obtain ⟨c, hc, e⟩ := List.mem_filterMap.mp hy
      have e' : c = some y := e
      subst e'
      obtain ⟨i, hi⟩ := List.mem_iff_getElem?.mp hc
      obtain ⟨v, e1⟩ := h 0 y rfl
      obtain ⟨w, e2⟩ := h (i + 1) y (by simpa using hi)
      rw [e1] at e2
      injection e2 with _ e2
      injection e2 with e2 _
      (first | lia | omega)
    · have := h (i + 1) x (by simpa using hi)
      rwa [show o + (i + 1) = o + 1 + i by (first | lia | omega)] at this
/-- all that come, the greatest first -/
structure Row4 (calls : List (Option El)) (ps : List El) : Prop where
  said : Said calls
  perm : ps.Perm (calls.filterMap id)
  desc : Desc ps
theorem Row4.of {calls : List (Option El)} {ps : List El} (h : Said calls) (hp : ps.Perm (calls.filterMap id)) (hg : ps.Pairwise Ge) : Row4 calls ps := by
  refine ⟨h, hp, ?_⟩
  have nd : ps.Nodup := hp.nodup_iff.mpr (said_nodup calls 0 fun i x hi => by
    obtain ⟨v, e⟩ := h i x hi
    exact ⟨v, by rw [e, Nat.zero_add]⟩)
  have : ps.Pairwise fun x y => Ge x y ∧ x ≠ y := List.Pairwise.and hg nd
  exact this.imp fun h => Ge.lt_of_ne h.1 h.2
def goneAt (calls : List (Option El)) (ps : List El) (i : Nat) : List (Option El) × List El := run (fun y => decide (y ∈ ps.take i)) calls []
theorem gone_len {calls : List (Option El)} {ps : List El} {i : Nat} : (goneAt calls ps i).1.length = calls.length := run_len _ _ _
theorem gone_start (calls : List (Option El)) (ps : List El) : goneAt calls ps 0 = (List.replicate calls.length none, []) := run_none _ _ (by simp)
theorem Row4.coming {calls : List (Option El)} {ps : List El} (r : Row4 calls ps) {i : Nat} {x : El} (hx : ps[i]? = some x) : ∃ (c : Nat) (v : Int), calls[c]? = some (some x) ∧ x = [v, -(c : Int)] := by
  have := r.perm.mem_iff.mp (List.mem_of_getElem? hx)
  obtain ⟨o, ho, e⟩ := List.mem_filterMap.mp this
  have e' : o = some x := e
  subst e'
  obtain ⟨c, hc⟩ := List.mem_iff_getElem?.mp ho
  obtain ⟨v, e⟩ := r.said c x hc
  exact ⟨c, v, hc, e⟩
/-- the free ones behind a call -/
def freeL (calls gone : List (Option El)) (c : Nat) : List Nat := ((List.range (calls.length - (c + 1))).map fun j => c + 1 + j).filter fun k => decide (calls[k]? = some none) && decide (gone[k]? = some none)
theorem Row4.step {calls : List (Option El)} {ps : List El} (r : Row4 calls ps) {i c : Nat} {x : El} (hx : ps[i]? = some x) (hc : calls[c]? = some (some x)) :
    (freeL calls (goneAt calls ps i).1 c = [] → goneAt calls ps (i + 1) = ((goneAt calls ps i).1, (goneAt calls ps i).2 ++ [x])) ∧
    (∀ k rest, freeL calls (goneAt calls ps i).1 c = k :: rest → k < calls.length ∧ goneAt calls ps (i + 1) = ((goneAt calls ps i).1.set k (some x), (goneAt calls ps i).2)) := by
  have hlt := (List.getElem?_eq_some_iff.mp hx).1
  have hS : ∀ y ∈ ps.take i, Lt x y := fun y hy => by
    obtain ⟨j, hj⟩ := List.mem_iff_getElem?.mp hy
    rw [List.getElem?_take] at hj
    split at hj
    · rename_i hji
      obtain ⟨h1, rfl⟩ := List.getElem?_eq_some_iff.mp hj
      obtain ⟨h2, rfl⟩ := List.getElem?_eq_some_iff.mp hx
      exact List.pairwise_iff_getElem.mp r.desc j i h1 h2 hji
    · cases hj
  have et : ps.take (i + 1) = ps.take i ++ [x] := by rw [List.take_add_one, hx]; rfl
  have hm := run_more hc (fun j hj => r.said.uniq hc hj) hS
  have eg : goneAt calls ps (i + 1) = run (fun y => decide (y ∈ ps.take i ++ [x])) calls [] := by unfold goneAt; rw [et]
  rw [eg]
  have mem : ∀ j, c < j → j < calls.length → (calls[j]? = some none ∧ (goneAt calls ps i).1[j]? = some none) → j ∈ freeL calls (goneAt calls ps i).1 c := fun j h1 h2 h3 => by
    unfold freeL
    refine List.mem_filter.mpr ⟨List.mem_map.mpr ⟨j - (c + 1), List.mem_range.mpr (by (first | lia | omega)), by (first | lia | omega)⟩, by simp [h3.1, h3.2]⟩
  refine ⟨fun he => ?_, fun k rest hk => ?_⟩
  · rcases hm with ⟨k, k1, k2, k3, k4, _, _⟩ | ⟨_, k2⟩
    · have := mem k k1 k2 ⟨k3, k4⟩
      rw [he] at this; cases this
    · exact k2
  · unfold freeL at hk
    obtain ⟨l1, l2, hl, hn, hp, _⟩ := List.filter_eq_cons_iff.mp hk
    have hkl : ((List.range (calls.length - (c + 1))).map fun j => c + 1 + j)[l1.length]? = some k := by rw [hl]; simp
    have hll : l1.length < calls.length - (c + 1) := by
      have := (List.getElem?_eq_some_iff.mp hkl).1
      simpa using this
    have hke : k = c + 1 + l1.length := by
      rw [List.getElem?_map, List.getElem?_range hll] at hkl
      simpa using hkl.symm
    have hpk : calls[k]? = some none ∧ (goneAt calls ps i).1[k]? = some none := by
      have := hp; simp only [Bool.and_eq_true, decide_eq_true_eq] at this; exact this
    have hno : ∀ j, c < j → j < k → ¬ (calls[j]? = some none ∧ (goneAt calls ps i).1[j]? = some none) := fun j j1 j2 j3 => by
      have hj : ((List.range (calls.length - (c + 1))).map fun j => c + 1 + j)[j - (c + 1)]? = some j := by
        rw [List.getElem?_map, List.getElem?_range (by (first | lia | omega))]
        simp; (first | lia | omega)
      rw [hl, List.getElem?_append_left (by (first | lia | omega))] at hj
      have := hn j (List.mem_of_getElem? hj)
      simp [j3.1, j3.2] at this
    refine ⟨by (first | lia | omega), ?_⟩
    rcases hm with ⟨k', a1, a2, a3, a4, a5, a6⟩ | ⟨b1, _⟩
    · have : k' = k := by
        rcases Nat.lt_trichotomy k' k with z | z | z
        · exact absurd ⟨a3, a4⟩ (hno k' a1 z)
        · exact z
        · exact absurd hpk (a5 k (by (first | lia | omega)) z)
      subst this; exact a6
    · exact absurd hpk (b1 k (by (first | lia | omega)) (by (first | lia | omega)))
theorem Row4.all {calls : List (Option El)} {ps : List El} (r : Row4 calls ps) : goneAt calls ps ps.length = run (fun _ => true) calls [] := by
  unfold goneAt
  rw [List.take_length]
  refine run_congr _ _ fun x hx => ?_
  have : x ∈ ps := r.perm.mem_iff.mpr (List.mem_filterMap.mpr ⟨some x, hx, rfl⟩)
  simpa using this

/-- the queue, call by call -/
def toldAt (calls : List (Option El)) (i : Nat) : List (Option El) × List El := run (fun _ => true) (calls.take i) []
theorem told_push {calls : List (Option El)} {i : Nat} {x : El} (h : calls[i]? = some (some x)) : toldAt calls (i + 1) = ((toldAt calls i).1 ++ [none], ins x (toldAt calls i).2) := by
  unfold toldAt
  rw [List.take_add_one, h, run_append]; rfl
theorem told_pop {calls : List (Option El)} {i : Nat} (h : calls[i]? = some none) : toldAt calls (i + 1) = ((toldAt calls i).1 ++ [(toldAt calls i).2.head?], (toldAt calls i).2.tail) := by
  unfold toldAt
  rw [List.take_add_one, h, run_append]; rfl
theorem told_from {calls : List (Option El)} : ∀ i, i ≤ calls.length → ∀ d ∈ (toldAt calls i).2, ∃ j, j < i ∧ calls[j]? = some (some d)
  | 0, _, d, hd => by cases hd
  | i + 1, hi, d, hd => by
    obtain ⟨c, hc⟩ : ∃ c, calls[i]? = some c := ⟨_, List.getElem?_eq_getElem (by (first | lia | omega))⟩
    cases c with
    | none =>
      rw [told_pop hc] at hd
      obtain ⟨j, j1, j2⟩ := told_from i (by (first | lia | omega)) d (List.mem_of_mem_tail hd)
      exact ⟨j, by (first | lia | omega), j2⟩
    | some x =>
      rw [told_push hc] at hd
      rcases List.mem_append.mp ((ins_perm x _).mem_iff.mp hd) with z | z
      · obtain ⟨j, j1, j2⟩ := told_from i (by (first | lia | omega)) d z
        exact ⟨j, by (first | lia | omega), j2⟩
      · have : d = x := by simpa using z
        subst this; exact ⟨i, by (first | lia | omega), hc⟩
theorem told_desc {calls : List (Option El)} (hs : Said calls) : ∀ i, i ≤ calls.length → Desc (toldAt calls i).2
  | 0, _ => List.Pairwise.nil
  | i + 1, hi => by
    have ih := told_desc hs i (by (first | lia | omega))
    obtain ⟨c, hc⟩ : ∃ c, calls[i]? = some c := ⟨_, List.getElem?_eq_getElem (by (first | lia | omega))⟩
    cases c with
    | none => rw [told_pop hc]; exact ih.sublist (List.tail_sublist _)
    | some x =>
      rw [told_push hc]
      refine ins_desc ih fun hx => ?_
      obtain ⟨j, j1, j2⟩ := told_from i (by (first | lia | omega)) x hx
      have := hs.uniq hc j2
      (first | lia | omega)
theorem told_len {calls : List (Option El)} {i : Nat} (h : i ≤ calls.length) : (toldAt calls i).1.length = i := by
  unfold toldAt; rw [run_len, List.length_take]; (first | lia | omega)
theorem told_small {calls : List (Option El)} : ∀ i, i ≤ calls.length → (toldAt calls i).2.length ≤ i
  | 0, _ => Nat.le_refl _
  | i + 1, hi => by
    have ih := told_small (calls := calls) i (by (first | lia | omega))
    obtain ⟨c, hc⟩ : ∃ c, calls[i]? = some c := ⟨_, List.getElem?_eq_getElem (by (first | lia | omega))⟩
    cases c with
    | none => rw [told_pop hc]; simp; (first | lia | omega)
    | some x => rw [told_push hc]; show (ins x (toldAt calls i).2).length ≤ _; rw [(ins_perm x _).length_eq]; simp; (first | lia | omega)
theorem top_head {H D : List El} {x : El} (hp : H.Perm D) (hd : Desc D) (hx : x ∈ H) (ht : ∀ y ∈ H, Ge x y) : D.head? = some x := by
  cases D with
  | nil => have := hp.mem_iff.mp hx; cases this
  | cons d D =>
    have hdx := ht d (hp.mem_iff.mpr (.head _))
    rcases List.mem_cons.mp (hp.mem_iff.mp hx) with e | e
    · rw [e]; rfl
    · have := (List.pairwise_cons.mp hd).1 x e
      exact absurd (hdx.symm.trans this) (by decide)
end Mine
end
section
open PySem PySem.W PyProof.Rows PySem.Calls
set_option maxRecDepth 100000
namespace Mine
local macro_rules | `(tactic| walk_at "loc") => `(tactic| first | assumption | with_reducible exact loc_hit | (with_reducible refine loc_put ?_; walk_at "loc") | (with_reducible refine loc_miss ?_ ?_; (· decide); walk_at "loc") | rfl)
local macro_rules | `(tactic| walk_at "mem") => `(tactic| first | assumption | with_reducible exact mem_hit | (with_reducible refine mem_set ?_; walk_at "mem") | (with_reducible refine mem_miss ?_ ?_; (· assumption); walk_at "mem") | rfl)
local macro_rules | `(tactic| walk_at "name") => `(tactic| refine AE_name ‹Cx.Ok _ _› (by walk_at "loc") ?_)
local macro_rules | `(tactic| walk_at "kind") => `(tactic| first | exact ⟨by decide, Or.inl (by rfl)⟩ | exact ⟨by decide, Or.inr ⟨by rfl, _, by rfl, by decide⟩⟩)
local macro_rules | `(tactic| walk_at "asn") => `(tactic| refine AX_assign (by with_unfolding_all rfl) (by with_unfolding_all rfl) (by with_unfolding_all rfl) ?_)

abbrev d4 (i : Nat) : DefRec := recAt PySem.Challenge.pw_dp0038_04 i

theorem sd_walk4 {B : Base} {n : Nat} {σ : St} {a : Addr} {s p : Nat} {l : List El} {x : El} {Q : Val → St → Prop} (hm : σ.mem a = some (.list (l.map tv))) (hlen : l.length ≤ 1000) (hp : l[p]? = some x)
    (h : Q .none (σ.put a (.list ((sd x s p l).map tv)))) : CallD B n [Str.ofString "heap", Str.ofString "startpos", Str.ofString "pos"] (d4 2).body (d4 2).scope [.ref a, .int s, .int p] σ Q := by
  intro A L qual fa code ok
  generalize hX : (⟨B, A, fnFm L qual fa code (d4 2).scope, (d4 2).scope⟩ : Cx) = X at ok ⊢
  conv => arg 2; whnf
  refine AS_cons ?_
  walk_at "asn"
  refine AE_subN (by intro _ _; rfl) ?_
  walk_at "name"
  walk_at "name"
  have hpl := get_lt hp
  refine ⟨p, _, _, rfl, .ref hm, by (first | lia | omega), map_get hp, ?_⟩
  refine AG_name ok (Writes_fn hX (by decide) (by decide +kernel)) ?_
  refine AS_cons ?_
  refine T.mono (P := SdE a x (sd x s p l) σ) (AX_while (SdI a s x (sd x s p l) σ) ?_ p ⟨⟨l, hm, (sd_length _ _).symm, hpl, rfl⟩, by walk_at "loc", by walk_at "loc", by walk_at "loc", by walk_at "loc", fun _ _ => rfl⟩) ?_
  rotate_left
  · rintro fl σ2 ⟨rfl, ⟨q, l1, hm1, hq, hl1, hs, e4⟩, e1, e3, hf⟩
    rw [sd_length] at hl1
    refine AS_cons ?_
    walk_at "asn"
    walk_at "name"
    refine AG_itemN ?_
    walk_at "name"
    walk_at "name"
    refine ⟨a, _, q, rfl, rfl, hm1, by simpa using hq, by simp; (first | lia | omega), ?_⟩
    refine AS_nil ?_
    rw [map_set, hs]
    rw [back_put (σ := σ) (a := a) (by rw [hm]; rfl) mem_hit fun b hb _ => ?_]
    · exact h
    · rw [St.put_mem, if_neg hb]; exact hf b hb
  rintro q σ1 ⟨⟨l1, hm1, hlen1, hq, hres⟩, e1, e2, e3, e4, hf⟩
  have hll : l1.length = l.length := hlen1.trans (sd_length _ _)
  refine AT_cmp rfl ?_
  walk_at "name"
  walk_at "name"
  refine Cmp_gt ?_
  refine ⟨fun hc => ?_, fun hc => ?_⟩
  · have hc' : s < q := by simpa using hc
    have hpar : (q - 1) / 2 < l1.length := by (first | lia | omega)
    obtain ⟨y, hy⟩ : ∃ y, l1[(q - 1) / 2]? = some y := ⟨_, List.getElem?_eq_getElem hpar⟩
    refine AS_cons ?_
    walk_at "asn"
    refine AE_bin ?_
    refine AE_bin ?_
    walk_at "name"
    refine AE_int ?_
    refine Op_sub ?_
    refine AE_int ?_
    refine Op_rshift (by decide) ?_
    have ep : ((q : Int) - 1).fdiv (2 ^ (1 : Int).toNat) = (((q - 1) / 2 : Nat) : Int) := by
      rw [show ((2 : Int) ^ (1 : Int).toNat) = 2 from rfl, Int.fdiv_eq_ediv_of_nonneg _ (by decide)]; (first | lia | omega)
    rw [ep]
    refine AG_name ok (Writes_fn hX (by decide) (by decide +kernel)) ?_
    refine AS_cons ?_
    walk_at "asn"
    refine AE_subN (by intro _ _; rfl) ?_
    walk_at "name"
    walk_at "name"
    refine ⟨(q - 1) / 2, _, _, rfl, .ref hm1, by (first | lia | omega), map_get hy, ?_⟩
    refine AG_name ok (Writes_fn hX (by decide) (by decide +kernel)) ?_
    refine AS_cons ?_
    refine AX_if ?_
    refine AT_cmp rfl ?_
    walk_at "name"
    walk_at "name"
    refine Cmp_ltT ok ?_
    refine ⟨fun hl => ?_, fun hl => ?_⟩
    · refine AS_cons ?_
      walk_at "asn"
      walk_at "name"
      refine AG_itemN ?_
      walk_at "name"
      walk_at "name"
      refine ⟨a, _, q, rfl, rfl, hm1, by simpa using hq, by simp; (first | lia | omega), ?_⟩
      refine AS_cons ?_
      walk_at "asn"
      walk_at "name"
      refine AG_name ok (Writes_fn hX (by decide) (by decide +kernel)) ?_
      refine AS_cons ?_
      refine AX_continue ?_
      refine ⟨(q - 1) / 2, by (first | lia | omega), ⟨l1.set q y, ?_, by simpa using hlen1, by simpa using hpar, ?_⟩, by walk_at "loc", by walk_at "loc", by walk_at "loc", by walk_at "loc", fun b hb => ?_⟩
      · rw [← map_set]; exact mem_hit
      · rw [← hres, sd_up hc' hy hl]
      · show ((St.put _ a _).mem b) = _
        rw [St.put_mem, if_neg hb]; exact hf b hb
    · refine AS_nil ?_
      refine AS_cons ?_
      refine AX_break ?_
      exact ⟨rfl, ⟨q, l1, hm1, hq, hlen1, (sd_end hc' hy hl).symm.trans hres, by walk_at "loc"⟩, by walk_at "loc", by walk_at "loc", hf⟩
  · have hc' : ¬ s < q := by simpa using hc
    exact ⟨rfl, ⟨q, l1, hm1, hq, hlen1, (sd_stop hc').symm.trans hres, e4⟩, e1, e3, hf⟩

theorem mul_ok (a : Nat) (_h : a < 2 ^ 40) : IntMulOk 2 (a : Int) := .of_left (by decide)

theorem su_walk4 {B : Base} {n : Nat} {σ : St} {a : Addr} {p : Nat} {l : List El} {x : El} {Q : Val → St → Prop} {fa1 : Addr} {fd1 : FuncData} {o1 : Obj}
    (F : FnAt B (Str.ofString "_siftdown_max") [Str.ofString "heap", Str.ofString "startpos", Str.ofString "pos"] (d4 2).body (d4 2).scope fa1 fd1 o1) (hlenf : B.mg (Str.ofString "len") = none)
    (hm : σ.mem a = some (.list (l.map tv))) (hlen : l.length ≤ 1000) (hp : l[p]? = some x)
    (h : Q .none (σ.put a (.list ((sup x p l).map tv)))) : CallD B (n + 1) [Str.ofString "heap", Str.ofString "pos"] (d4 3).body (d4 3).scope [.ref a, .int p] σ Q := by
  intro A L qual fa code ok
  generalize hX : (⟨B, A, fnFm L qual fa code (d4 3).scope, (d4 3).scope⟩ : Cx) = X at ok ⊢
  have hpl := get_lt hp
  have hB : X.B = B := by rw [← hX]
  conv => arg 2; whnf
  refine AS_cons ?_
  walk_at "asn"
  refine AE_builtin ok (BName_fn hX hlenf (by decide) (by decide) (by rfl) (by rfl)) (by rfl) (by rfl) ?_
  refine AEs_cons (by rfl) ?_
  walk_at "name"
  refine AEs_nil ?_
  refine BC_len (.ref hm) (by simp; (first | lia | omega)) ?_
  rw [List.length_map]
  refine AG_name ok (Writes_fn hX (by decide) (by decide +kernel)) ?_
  refine AS_cons ?_
  walk_at "asn"
  walk_at "name"
  refine AG_name ok (Writes_fn hX (by decide) (by decide +kernel)) ?_
  refine AS_cons ?_
  walk_at "asn"
  refine AE_subN (by intro _ _; rfl) ?_
  walk_at "name"
  walk_at "name"
  refine ⟨p, _, _, rfl, .ref hm, by (first | lia | omega), map_get hp, ?_⟩
  refine AG_name ok (Writes_fn hX (by decide) (by decide +kernel)) ?_
  refine AS_cons ?_
  walk_at "asn"
  refine AE_bin ?_
  refine AE_bin ?_
  refine AE_int ?_
  walk_at "name"
  refine Op_mul (mul_ok p (by (first | lia | omega))) ?_
  refine AE_int ?_
  refine Op_add ?_
  refine AG_name ok (Writes_fn hX (by decide) (by decide +kernel)) ?_
  refine AS_cons ?_
  have hsu := su_ok (x := x) _ p l rfl hpl
  refine T.mono (P := SuE a p x (su x p l) σ) (AX_while (SuI a p x (su x p l) l.length σ) ?_ (l.length - p) ⟨⟨p, l, hm, rfl, hpl, rfl, rfl, by walk_at "loc", by walk_at "loc"⟩, by walk_at "loc", by walk_at "loc", by walk_at "loc", by walk_at "loc", fun _ _ => rfl⟩) ?_
  · rintro k σ1 ⟨⟨q, l1, hm1, hl1, hq, rfl, hres, e5, e6⟩, e1, e2, e3, e4, hf⟩
    refine AT_cmp rfl ?_
    walk_at "name"
    walk_at "name"
    refine Cmp_lt ?_
    refine ⟨fun hc => ?_, fun hc => ?_⟩
    · have hc' : 2 * q + 1 < l1.length := by have := of_decide_eq_true hc; (first | lia | omega)
      obtain ⟨y1, hy1⟩ : ∃ y, l1[2 * q + 1]? = some y := ⟨_, List.getElem?_eq_getElem hc'⟩
      refine AS_cons ?_
      walk_at "asn"
      refine AE_bin ?_
      walk_at "name"
      refine AE_int ?_
      refine Op_add ?_
      rw [show (((2 * q + 1 : Nat) : Int) + 1) = ((2 * q + 2 : Nat) : Int) from by (first | lia | omega)]
      refine AG_name ok (Writes_fn hX (by decide) (by decide +kernel)) ?_
      refine AS_cons ?_
      -- the child that is taken
      refine T.mono (P := fun fl σ2 => fl = .next ∧ σ2.mem = σ1.mem ∧ σ2.loc (Str.ofString "childpos") = some (.int (suC q l1 : Nat)) ∧ σ2.loc (Str.ofString "heap") = some (.ref a) ∧ σ2.loc (Str.ofString "startpos") = some (.int p) ∧ σ2.loc (Str.ofString "newitem") = some (tv x) ∧ σ2.loc (Str.ofString "endpos") = some (.int l.length) ∧ σ2.loc (Str.ofString "pos") = some (.int q)) ?_ ?_
      · refine AX_if ?_
        refine AT_and ?_
        refine AT_cmp rfl ?_
        walk_at "name"
        walk_at "name"
        refine Cmp_lt ?_
        refine ⟨fun h2 => ?_, fun h2 => ?_⟩
        · have h2' : 2 * q + 2 < l1.length := by have := of_decide_eq_true h2; (first | lia | omega)
          obtain ⟨y2, hy2⟩ : ∃ y, l1[2 * q + 2]? = some y := ⟨_, List.getElem?_eq_getElem h2'⟩
          refine AT_not ?_
          refine AT_cmp rfl ?_
          refine AE_subN (by intro _ _; rfl) ?_
          walk_at "name"
          walk_at "name"
          refine ⟨2 * q + 2, _, _, rfl, .ref hm1, by (first | lia | omega), map_get hy2, ?_⟩
          refine AE_subN (by intro _ _; rfl) ?_
          walk_at "name"
          walk_at "name"
          refine ⟨2 * q + 1, _, _, rfl, .ref hm1, by (first | lia | omega), map_get hy1, ?_⟩
          refine Cmp_ltT ok ?_
          refine ⟨fun h3 => ?_, fun h3 => ?_⟩
          · have ec : suC q l1 = 2 * q + 2 := by
              unfold suC; rw [if_pos ⟨h2', by rw [getD_of hy2, getD_of hy1]; simpa using h3⟩]
            refine AS_cons ?_
            walk_at "asn"
            walk_at "name"
            refine AG_name ok (Writes_fn hX (by decide) (by decide +kernel)) ?_
            refine AS_nil ⟨rfl, rfl, ?_, by walk_at "loc", by walk_at "loc", by walk_at "loc", by walk_at "loc", by walk_at "loc"⟩
            rw [ec]; exact loc_hit
          · have ec : suC q l1 = 2 * q + 1 := by
              unfold suC; rw [if_neg (fun z => by have := z.2; rw [getD_of hy2, getD_of hy1] at this; simp [this] at h3)]
            refine AS_nil ⟨rfl, rfl, ?_, by walk_at "loc", by walk_at "loc", by walk_at "loc", by walk_at "loc", by walk_at "loc"⟩
            rw [ec]; walk_at "loc"
        · have ec : suC q l1 = 2 * q + 1 := by
            unfold suC; rw [if_neg (fun z => by have := z.1; have := of_decide_eq_false h2; (first | lia | omega))]
          refine ⟨(fun z => nomatch z), fun _ => ?_⟩
          refine AS_nil ⟨rfl, rfl, ?_, by walk_at "loc", by walk_at "loc", by walk_at "loc", by walk_at "loc", by walk_at "loc"⟩
          rw [ec]; walk_at "loc"
      · rintro fl σ2 ⟨rfl, em, f1, f2, f3, f4, f5, f6⟩
        have hcl := suC_lt hc'
        obtain ⟨y, hy⟩ : ∃ y, l1[suC q l1]? = some y := ⟨_, List.getElem?_eq_getElem hcl.1⟩
        have hm2 : σ2.mem a = some (.list (l1.map tv)) := (congrFun em a).trans hm1
        refine AS_cons ?_
        walk_at "asn"
        refine AE_subN (by intro _ _; rfl) ?_
        walk_at "name"
        walk_at "name"
        refine ⟨suC q l1, _, _, rfl, .ref hm2, by (first | lia | omega), map_get hy, ?_⟩
        refine AG_itemN ?_
        walk_at "name"
        walk_at "name"
        refine ⟨a, _, q, rfl, rfl, hm2, by simp; (first | lia | omega), by simp; (first | lia | omega), ?_⟩
        refine AS_cons ?_
        walk_at "asn"
        walk_at "name"
        refine AG_name ok (Writes_fn hX (by decide) (by decide +kernel)) ?_
        refine AS_cons ?_
        walk_at "asn"
        refine AE_bin ?_
        refine AE_bin ?_
        refine AE_int ?_
        walk_at "name"
        refine Op_mul (mul_ok _ (by (first | lia | omega))) ?_
        refine AE_int ?_
        refine Op_add ?_
        refine AG_name ok (Writes_fn hX (by decide) (by decide +kernel)) ?_
        refine AS_nil ?_
        refine ⟨l.length - suC q l1, by (first | lia | omega), ⟨suC q l1, l1.set q y, ?_, by simpa using hl1, by (first | lia | omega), rfl, ?_, by walk_at "loc", by walk_at "loc"⟩, by walk_at "loc", by walk_at "loc", by walk_at "loc", by walk_at "loc", fun b hb => ?_⟩
        · rw [← map_set]; exact mem_hit
        · rw [← hres, su_step hc', getD_of hy]
        · show ((St.put _ a _).mem b) = _
          rw [St.put_mem, if_neg hb, em]; exact hf b hb
    · have hc' : ¬ 2 * q + 1 < l1.length := by have := of_decide_eq_false hc; (first | lia | omega)
      rw [su_stop hc'] at hres
      exact ⟨rfl, by rw [← hres]; exact hm1, by rw [← hres]; exact e5, e1, e2, e3, hf⟩
  · rintro fl σ2 ⟨rfl, hm2, e5, e1, e2, e3, hf⟩
    refine AS_cons ?_
    walk_at "asn"
    walk_at "name"
    refine AG_itemN ?_
    walk_at "name"
    walk_at "name"
    refine ⟨a, _, _, rfl, rfl, hm2, by simp; (first | lia | omega), by simp; (first | lia | omega), ?_⟩
    rw [map_set]
    refine AS_cons ?_
    refine AX_expr (by rw [← hX]; rfl) (by with_unfolding_all rfl) ?_
    refine AE_call ok (hB ▸ F) (by rw [← hX]; rfl) (by decide) (by rfl) ?_
    refine AEs_cons (by rfl) ?_
    walk_at "name"
    refine AEs_cons (by rfl) ?_
    walk_at "name"
    refine AEs_cons (by rfl) ?_
    walk_at "name"
    refine AEs_nil ⟨rfl, ?_⟩
    refine sd_walk4 mem_hit (by simp; (first | lia | omega)) (x := x) (by rw [List.getElem?_set_self]; (first | lia | omega)) ?_
    refine AS_nil ?_
    rw [back_put (σ := σ) (a := a) (by rw [hm]; rfl) mem_hit fun b hb _ => ?_]
    · exact h
    · rw [St.put_mem, if_neg hb, St.put_mem, if_neg hb]; exact hf b hb

theorem hp_walk4 {B : Base} {n : Nat} {σ : St} {a : Addr} {l : List El} {y : El} {Q : Val → St → Prop} {fa1 : Addr} {fd1 : FuncData} {o1 : Obj} {fa2 : Addr} {fd2 : FuncData} {o2 : Obj}
    (F1 : FnAt B (Str.ofString "_siftdown_max") [Str.ofString "heap", Str.ofString "startpos", Str.ofString "pos"] (d4 2).body (d4 2).scope fa1 fd1 o1) (hlenf : B.mg (Str.ofString "len") = none)
    (F2 : FnAt B (Str.ofString "_siftup_max") [Str.ofString "heap", Str.ofString "pos"] (d4 3).body (d4 3).scope fa2 fd2 o2)
    (hm : σ.mem a = some (.list ((l ++ [y]).map tv))) (hlen : l.length < 1000)
    (h0 : l = [] → Q (tv y) (σ.put a (.list []))) (h1 : ∀ x, l[0]? = some x → Q (tv x) (σ.put a (.list ((sup y 0 (l.set 0 y)).map tv)))) :
    CallD B (n + 2) [Str.ofString "heap"] (d4 1).body (d4 1).scope [.ref a] σ Q := by
  intro A L qual fa code ok
  generalize hX : (⟨B, A, fnFm L qual fa code (d4 1).scope, (d4 1).scope⟩ : Cx) = X at ok ⊢
  have hB : X.B = B := by rw [← hX]
  conv => arg 2; whnf
  refine AS_cons ?_
  walk_at "asn"
  refine AE_pop ?_ (by rfl) (by with_unfolding_all rfl)
  walk_at "name"
  refine ⟨a, l.map tv, tv y, rfl, hm.trans (by simp), by simp; (first | lia | omega), ?_⟩
  refine AG_name ok (Writes_fn hX (by decide) (by decide +kernel)) ?_
  refine AS_cons ?_
  refine AX_if ?_
  refine AT_val ?_ (by intro _; rfl)
  walk_at "name"
  refine Tru_list (.ref (by walk_at "mem")) (by simp; (first | lia | omega)) ?_
  refine ⟨fun hc => ?_, fun hc => ?_⟩
  · have hl : l ≠ [] := by simpa using hc
    obtain ⟨x, hx⟩ : ∃ x, l[0]? = some x := by
      cases l with
      | nil => exact absurd rfl hl
      | cons x r => exact ⟨x, rfl⟩
    have hxl := get_lt hx
    refine AS_cons ?_
    walk_at "asn"
    refine AE_subN (by intro _ _; rfl) ?_
    walk_at "name"
    refine AE_int ?_
    refine ⟨0, _, _, rfl, .ref (by walk_at "mem"), by (first | lia | omega), map_get hx, ?_⟩
    refine AG_name ok (Writes_fn hX (by decide) (by decide +kernel)) ?_
    refine AS_cons ?_
    walk_at "asn"
    walk_at "name"
    refine AG_itemN ?_
    walk_at "name"
    refine AE_int ?_
    refine ⟨a, _, 0, rfl, rfl, by walk_at "mem", by simp; (first | lia | omega), by simp; (first | lia | omega), ?_⟩
    rw [map_set]
    refine AS_cons ?_
    refine AX_expr (by rw [← hX]; rfl) (by with_unfolding_all rfl) ?_
    refine AE_call ok (hB ▸ F2) (by rw [← hX]; rfl) (by decide) (by rfl) ?_
    refine AEs_cons (by rfl) ?_
    walk_at "name"
    refine AEs_cons (by rfl) ?_
    refine AE_int ?_
    refine AEs_nil ⟨rfl, ?_⟩
    refine su_walk4 (hB ▸ F1) (hB ▸ hlenf) mem_hit (by simp; (first | lia | omega)) (p := 0) (x := y) (by rw [List.getElem?_set_self hxl]) ?_
    refine AS_cons ?_
    refine AX_ret ?_
    walk_at "name"
    rw [back_put (σ := σ) (a := a) (by rw [hm]; rfl) mem_hit fun b hb _ => ?_]
    · exact h1 x hx
    · simp only [St.put_mem, St.set_mem, if_neg hb]; rfl
  · have hl : l = [] := by simpa using hc
    refine AS_nil ?_
    refine AS_cons ?_
    refine AX_ret ?_
    walk_at "name"
    rw [back_put (σ := σ) (a := a) (bx := .list []) (by rw [hm]; rfl) (by rw [St.set_mem, St.put_mem, if_pos rfl, hl]; rfl) fun b hb _ => ?_]
    · exact h0 hl
    · simp only [St.put_mem, St.set_mem, if_neg hb]; rfl
end Mine
end
section
open PySem PySem.W PyProof.Rows PySem.Calls
set_option maxRecDepth 100000
namespace Mine
theorem pop_walk4 {B : Base} {n : Nat} {σ : St} {a : Addr} {H : List El} {Q : Val → St → Prop} {fa1 : Addr} {fd1 : FuncData} {o1 : Obj} {fa2 : Addr} {fd2 : FuncData} {o2 : Obj}
    (F1 : FnAt B (Str.ofString "_siftdown_max") [Str.ofString "heap", Str.ofString "startpos", Str.ofString "pos"] (d4 2).body (d4 2).scope fa1 fd1 o1) (hlenf : B.mg (Str.ofString "len") = none)
    (F2 : FnAt B (Str.ofString "_siftup_max") [Str.ofString "heap", Str.ofString "pos"] (d4 3).body (d4 3).scope fa2 fd2 o2)
    (hm : σ.mem a = some (.list (H.map tv))) (hlen : H.length ≤ 1000) (hf : HF H 0) (hne : H ≠ [])
    (h : ∀ x H', x ∈ H → (∀ y ∈ H, Ge x y) → (x :: H').Perm H → HF H' 0 → Q (tv x) (σ.put a (.list (H'.map tv)))) :
    CallD B (n + 2) [Str.ofString "heap"] (d4 1).body (d4 1).scope [.ref a] σ Q := by
  obtain ⟨l, y, e, h0, h1⟩ := pop_plain hf hne
  have hm' := hm
  rw [e] at hm'
  have hl : l.length < 1000 := by rw [e] at hlen; simp at hlen; (first | lia | omega)
  refine hp_walk4 F1 hlenf F2 hm' hl (fun el => ?_) (fun x hx => ?_)
  · obtain ⟨a1, a2, a3, a4⟩ := h0 el
    exact h y [] a1 a2 a3 a4
  · obtain ⟨a1, a2, a3, a4⟩ := h1 x hx
    exact h x _ a1 a2 a3 a4
theorem push_walk4 {B : Base} {n : Nat} {σ : St} {a : Addr} {H : List El} {x : El} {Q : Val → St → Prop} (hm : σ.mem a = some (.list ((H ++ [x]).map tv))) (hlen : H.length < 1000) (hf : HF H 0)
    (h : ∀ H', H'.Perm (H ++ [x]) → HF H' 0 → Q .none (σ.put a (.list (H'.map tv)))) :
    CallD B n [Str.ofString "heap", Str.ofString "startpos", Str.ofString "pos"] (d4 2).body (d4 2).scope [.ref a, .int 0, .int H.length] σ Q := by
  obtain ⟨r1, r2⟩ := push_spec (x := x) hf
  exact sd_walk4 (s := 0) hm (by simp; (first | lia | omega)) (by simp) (h _ r2 r1)
end Mine
end
section
open PySem PySem.W PyProof.Rows PySem.Calls
set_option maxRecDepth 100000
namespace Mine
def zs (l : List Nat) : List Int := l.map fun (k : Nat) => (k : Int)
abbrev nv (l : List Nat) : List Val := (zs l).map Val.int
theorem nv_eq (l : List Nat) : nv l = l.map fun (k : Nat) => Val.int (k : Int) := by unfold nv zs; rw [List.map_map]; rfl
theorem zs_len (l : List Nat) : (zs l).length = l.length := by simp [zs]
theorem nv_mem {l : List Nat} {V : Val} (h : V ∈ nv l) : ∃ k : Nat, k ∈ l ∧ V = .int (k : Int) := by
  rw [nv_eq] at h
  obtain ⟨k, hk, rfl⟩ := List.mem_map.mp h
  exact ⟨k, hk, rfl⟩
theorem nv_filter (l : List Nat) (p : Nat → Bool) (q : Val → Bool) (h : ∀ k ∈ l, q (.int (k : Int)) = p k) : (nv l).filter q = nv (l.filter p) := by
  rw [nv_eq, nv_eq, List.filter_map]
  congr 1
  exact List.filter_congr fun k hk => h k hk
theorem ATs_one {X : Cx} {σ : St} {c : Expr} {Q : Bool → St → Prop} (h : AT X c σ Q) : ATs X [c] σ Q := T.mono h fun b σ1 q => ⟨fun e => by subst e; exact q, fun e => by subst e; exact q⟩

theorem ne_of_mem {σ : St} {a b : Addr} {bx : Box} (h2 : σ.mem b = none) (h1 : σ.mem a = some bx) : a ≠ b := fun q => by rw [q, h2] at h1; cases h1
end Mine
end
section
open PySem PySem.W PyProof.Rows PySem.Calls
set_option maxRecDepth 100000
namespace Mine
local macro_rules | `(tactic| walk_at "loc") => `(tactic| first | assumption | with_reducible exact loc_hit | (with_reducible refine loc_put ?_; walk_at "loc") | (with_reducible refine loc_miss ?_ ?_; (· decide); walk_at "loc") | rfl)
local macro_rules | `(tactic| walk_at "ne") => `(tactic| first | assumption | (refine Ne.symm ?_; assumption))
local macro_rules | `(tactic| walk_at "mem") => `(tactic| first | assumption | with_reducible exact mem_hit | (with_reducible refine mem_set ?_; walk_at "mem") | (with_reducible refine mem_miss ?_ ?_; (· walk_at "ne"); walk_at "mem") | rfl)
local macro_rules | `(tactic| walk_at "name") => `(tactic| refine AE_name ‹Cx.Ok _ _› (by walk_at "loc") ?_)
local macro_rules | `(tactic| walk_at "asn") => `(tactic| refine AX_assign (by with_unfolding_all rfl) (by with_unfolding_all rfl) (by with_unfolding_all rfl) ?_)

structure Free4 (B : Base) : Prop where
  len : B.mg (Str.ofString "len") = none
  sorted : B.mg (Str.ofString "sorted") = none
  range : B.mg (Str.ofString "range") = none
  enumerate : B.mg (Str.ofString "enumerate") = none
  str : B.mg (Str.ofString "str") = none
  index : B.mg (Str.ofString "IndexError") = none

/-- a call, or what one has told -/
def ov : Option El → Val
  | some x => tv x
  | none => .none
theorem ov_none {c : Option El} : (ov c).isNone = decide (c = none) := by cases c <;> rfl
abbrev cvs (l : List (Option El)) : List Val := l.map ov
theorem cvs_get {l : List (Option El)} {k : Nat} {c : Option El} (h : l[k]? = some c) : (cvs l)[k]? = some (ov c) := by rw [List.getElem?_map, h]; rfl
theorem cvs_filter : ∀ (l : List (Option El)) (p : Val → Bool), (∀ c, p (ov c) = !decide (c = none)) → (cvs l).filter p = (l.filterMap id).map tv
  | [], _, _ => rfl
  | none :: r, p, h => by
    have e := cvs_filter r p h
    have : p (ov none) = false := by rw [h]; rfl
    show (ov none :: cvs r).filter p = _
    rw [List.filter_cons, this]; exact e
  | some x :: r, p, h => by
    have e := cvs_filter r p h
    have : p (ov (some x)) = true := by rw [h]; rfl
    show (ov (some x) :: cvs r).filter p = _
    rw [List.filter_cons, this]
    show tv x :: (cvs r).filter p = tv x :: _
    rw [e]

structure GoI (calls : List (Option El)) (ps : List El) (σ₀ : St) (GA LA : Addr) (i : Nat) (σ : St) : Prop where
  mg : σ.mem GA = some (.list (cvs (goneAt calls ps i).1))
  ml : σ.mem LA = some (.list ((goneAt calls ps i).2.map tv))
  calls : σ.loc (Str.ofString "calls") = some (.lst (cvs calls))
  gone : σ.loc (Str.ofString "gone") = some (.ref GA)
  left : σ.loc (Str.ofString "left") = some (.ref LA)
  frame : ∀ a bx, σ₀.mem a = some bx → σ.mem a = some bx

set_option maxHeartbeats 4000000 in
theorem gone_walk4 {B : Base} {n : Nat} {σ : St} {calls : List (Option El)} {Q : Val → St → Prop} (F : Free4 B) (hl : calls.length ≤ 73) (hs : Said calls)
    (h : Q (.tup [.lst (cvs (run (fun _ => true) calls []).1), .lst ((run (fun _ => true) calls []).2.map tv)]) σ) :
    CallD B n [Str.ofString "calls"] (d4 5).body (d4 5).scope [.lst (cvs calls)] σ Q := by
  intro A L qual fa code ok
  generalize hX : (⟨B, A, fnFm L qual fa code (d4 5).scope, (d4 5).scope⟩ : Cx) = X at ok ⊢
  have hB : X.B = B := by rw [← hX]
  conv => arg 2; whnf
  refine AS_cons ?_
  walk_at "asn"
  refine AE_bin ?_
  refine AE_list ?_
  refine AEs_cons (by rfl) ?_
  refine AE_none ?_
  refine AEs_nil ⟨by simp, .frozen ?_⟩
  refine AE_builtin ok (BName_fn hX F.len (by decide) (by decide) (by rfl) (by rfl)) (by rfl) (by rfl) ?_
  refine AEs_cons (by rfl) ?_
  walk_at "name"
  refine AEs_nil ?_
  refine BC_len .lst (by simp; (first | lia | omega)) ?_
  rw [List.length_map]
  refine Op_mulList .lst (by simp; (first | lia | omega)) (by (first | lia | omega)) (.tracked fun GA hGA => ?_)
  rw [show (List.replicate calls.length [Val.none]).flatten = cvs (List.replicate calls.length none) from by simp [ov]]
  refine AG_name ok (Writes_fn hX (by decide) (by decide +kernel)) ?_
  refine AS_cons ?_
  walk_at "asn"
  refine AE_list ?_
  refine AEs_nil ⟨by simp, .tracked fun LA hLA => ?_⟩
  refine AG_name ok (Writes_fn hX (by decide) (by decide +kernel)) ?_
  have nGL : GA ≠ LA := ne_of_mem hLA (by walk_at "mem")
  have hGA0 : σ.mem GA = none := hGA
  have hLA0 : ∀ a bx, σ.mem a = some bx → a ≠ LA := fun a bx e => ne_of_mem hLA (mem_set (mem_miss (fun q => by rw [q, hGA0] at e; cases e) e))
  refine AS_cons ?_
  refine Mine.T.mono (P := fun fl σ2 => fl = .next ∧ ∃ ps, Row4 calls ps ∧ GoI calls ps σ GA LA ps.length σ2) ?_ ?_
  · refine AX_for ok (by intro _; rfl) ?_
    refine AI_list (.inl ⟨_, _, rfl⟩) ?_
    refine AE_builtinR ok (BName_fn hX F.sorted (by decide) (by decide) (by rfl) (by rfl)) (by rfl) ?_
    refine AEs_cons (by rfl) ?_
    refine AE_comp ok (CompOk_fn hX rfl (by decide) (by decide +kernel)) (by intro _; rfl) ?_
    refine AI_list (.inl ⟨_, _, rfl⟩) ?_
    walk_at "name"
    refine ⟨_, .lst, ?_⟩
    refine CompK_pure (fun V => !V.isNone) id (by simp; (first | lia | omega)) (fun _ _ => .lst) ?_ ?_
    · intro C σ3 V okc hVm hmm hll
      refine AG_name okc (Writes_comp ok (by decide) (by rfl)) ?_
      refine ⟨⟨rfl, fun y hy => ?_⟩, ?_⟩
      · rw [St.set_loc, if_neg (fun q => by rw [q] at hy; revert hy; decide)]; exact hll y hy
      · refine ATs_one ?_
        refine AT_cmp rfl ?_
        refine AE_name okc loc_hit ?_
        refine AE_none ?_
        exact Cmp_isnot ⟨rfl, rfl, fun _ => AE_name okc loc_hit ⟨rfl, rfl⟩⟩
    refine .frozen ?_
    rw [List.map_id, cvs_filter calls _ (fun c => by rw [ov_none])]
    refine AEs_nil ?_
    refine BC_sortedR _ .lst (Nat.lt_of_le_of_lt (List.length_filterMap_le _ _) (by (first | lia | omega))) (fun x hx => ?_) fun ps p1 p2 => .frozen ?_
    · obtain ⟨o, ho, e⟩ := List.mem_filterMap.mp hx
      have e' : o = some x := e
      subst e'
      obtain ⟨i, hi⟩ := List.mem_iff_getElem?.mp ho
      obtain ⟨v, e⟩ := hs i x hi
      rw [e]; simp
    have row := Row4.of hs p1 p2
    refine ⟨_, .lst, ?_⟩
    refine ForL_inv (GoI calls ps σ GA LA) ?_ (fun σ' hI => ⟨rfl, ps, row, by rw [List.length_map] at hI; exact hI⟩) ⟨by rw [gone_start]; walk_at "mem", by rw [gone_start]; exact mem_set mem_hit, by walk_at "loc", by walk_at "loc", by walk_at "loc", fun a bx e => mem_set (mem_miss (hLA0 a bx e) (mem_set (mem_miss (fun q => by rw [q, hGA0] at e; cases e) e)))⟩
    intro i σ2 V hV hI
    obtain ⟨m1, m2, l1, l2, l3, hfr⟩ := hI
    have hi : i < ps.length := by simpa using (List.getElem?_eq_some_iff.mp hV).1
    obtain ⟨x, hx⟩ : ∃ x, ps[i]? = some x := ⟨_, List.getElem?_eq_getElem hi⟩
    obtain rfl : V = tv x := by
      rw [List.getElem?_map, hx] at hV
      simpa using hV.symm
    obtain ⟨c, v, hc, ex⟩ := row.coming hx
    have hcl := (List.getElem?_eq_some_iff.mp hc).1
    obtain ⟨st1, st2⟩ := row.step hx hc
    refine AG_name ok (Writes_fn hX (by decide) (by decide +kernel)) ?_
    refine AS_cons ?_
    have hex : ∃ x', x' = x := ⟨x, rfl⟩
    have glen : (goneAt calls ps i).1.length = calls.length := gone_len
    refine AX_assign_comp ok (CompOk_fn hX rfl (by decide) (by decide +kernel)) (by intro _; rfl) (by rw [← hX]; with_unfolding_all rfl) (Writes_fn hX (by decide) (by decide +kernel)) ?_
    refine AI_range2 ok ⟨_, _, rfl⟩ (BName_fn hX F.range (by decide) (by decide) (by rfl) (by rfl)) (by rfl) (by rfl) ?_
    refine AE_bin ?_
    refine AE_int ?_
    refine AE_sub (by intro _ _; rfl) ?_
    walk_at "name"
    refine AE_int ?_
    refine ⟨1, .int (-(c : Int)), rfl, .inr ⟨[.int v, .int (-(c : Int))], 1, by rw [ex]; rfl, by decide, by decide, rfl, rfl⟩, ?_⟩
    refine Op_sub ?_
    refine AE_builtin ok (BName_fn hX F.len (by decide) (by decide) (by rfl) (by rfl)) (by rfl) (by rfl) ?_
    refine AEs_cons (by rfl) ?_
    walk_at "name"
    refine AEs_nil ?_
    refine BC_len .lst (by simp; (first | lia | omega)) ?_
    rw [List.length_map]
    refine ⟨_, _, rfl, rfl, small_1 (by (first | lia | omega)) (by (first | lia | omega)) (by (first | lia | omega)) (by (first | lia | omega)), ?_⟩
    have er : (rangeL (1 - -(c : Int)) (calls.length : Int) 1).map Val.int = nv ((List.range (calls.length - (c + 1))).map fun j => c + 1 + j) := by
      rw [rangeL_1, nv_eq, List.map_map, List.map_map, show ((calls.length : Int) - (1 - -(c : Int))).toNat = calls.length - (c + 1) from by (first | lia | omega)]
      apply List.map_congr_left
      intro j _
      show Val.int (1 - -(c : Int) + (j : Int)) = Val.int ((c + 1 + j : Nat) : Int)
      congr 1; (first | lia | omega)
    rw [er]
    refine CompK_pure (fun V => decide (calls[V.toInt.toNat]? = some none) && decide ((goneAt calls ps i).1[V.toInt.toNat]? = some none)) id (by simp [zs_len]; (first | lia | omega)) (fun _ _ => trivial) ?_ ?_
    · intro C σ3 V okc hVm hmm hll
      obtain ⟨k, hk, rfl⟩ := nv_mem hVm
      have hk' : k < calls.length := by
        obtain ⟨j, hj, rfl⟩ := List.mem_map.mp hk
        have := List.mem_range.mp hj
        (first | lia | omega)
      obtain ⟨ck, hck⟩ : ∃ ck, calls[k]? = some ck := ⟨_, List.getElem?_eq_getElem hk'⟩
      obtain ⟨gk, hgk⟩ : ∃ gk, (goneAt calls ps i).1[k]? = some gk := ⟨_, List.getElem?_eq_getElem (by (first | lia | omega))⟩
      refine AG_name okc (Writes_comp ok (by decide) (by rfl)) ?_
      refine ⟨⟨rfl, fun y hy => ?_⟩, ?_⟩
      · rw [St.set_loc, if_neg (fun q => by rw [q] at hy; revert hy; decide)]; exact hll y hy
      · refine ATs_one ?_
        refine AT_and ?_
        refine AT_cmp rfl ?_
        refine AE_subN (by intro _ _; rfl) ?_
        refine AE_name okc (V := .lst (cvs calls)) (loc_miss (by decide) ((hll _ (by rfl)).trans (by walk_at "loc"))) ?_
        refine AE_name okc loc_hit ?_
        refine ⟨k, _, _, rfl, .lst, by (first | lia | omega), cvs_get hck, ?_⟩
        refine AE_none ?_
        refine Cmp_is ?_
        rw [ov_none]
        refine ⟨fun h1 => ?_, fun h1 => ⟨rfl, ?_, fun q => by cases q⟩⟩
        · have h1' := of_decide_eq_true h1
          refine AT_cmp rfl ?_
          refine AE_subN (by intro _ _; rfl) ?_
          refine AE_name okc (V := .ref GA) (loc_miss (by decide) ((hll _ (by rfl)).trans (by walk_at "loc"))) ?_
          refine AE_name okc loc_hit ?_
          refine ⟨k, _, _, rfl, .ref (hmm GA _ m1), by (first | lia | omega), cvs_get hgk, ?_⟩
          refine AE_none ?_
          refine Cmp_is ?_
          rw [ov_none]
          refine ⟨rfl, ?_, fun _ => AE_name okc loc_hit ⟨rfl, rfl⟩⟩
          show _ = (decide (calls[(k : Int).toNat]? = some none) && decide ((goneAt calls ps i).1[(k : Int).toNat]? = some none))
          rw [Int.toNat_natCast, hck, hgk, h1']
          simp
        · have h1' := of_decide_eq_false h1
          show _ = (decide (calls[(k : Int).toNat]? = some none) && decide ((goneAt calls ps i).1[(k : Int).toNat]? = some none))
          rw [Int.toNat_natCast, hck]
          simp [h1']
    refine .frozen ?_
    rw [List.map_id, nv_filter _ (fun k => decide (calls[k]? = some none) && decide ((goneAt calls ps i).1[k]? = some none)) _ (fun k _ => by
      show (decide (calls[(k : Int).toNat]? = some none) && decide ((goneAt calls ps i).1[(k : Int).toNat]? = some none)) = _
      rw [Int.toNat_natCast])]
    rw [show (((List.range (calls.length - (c + 1))).map fun j => c + 1 + j).filter fun k => decide (calls[k]? = some none) && decide ((goneAt calls ps i).1[k]? = some none)) = freeL calls (goneAt calls ps i).1 c from rfl]
    have llen : (goneAt calls ps i).2.length ≤ 73 := by
      have := run_small (fun y => decide (y ∈ ps.take i)) calls []
      unfold goneAt
      simp only [List.length_nil] at this
      (first | lia | omega)
    refine AS_cons ?_
    refine AX_ifd (freeL calls (goneAt calls ps i).1 c = []) ?_ ?_ ?_
    · refine AT_cmp rfl ?_
      walk_at "name"
      refine AE_list ?_
      refine AEs_nil ⟨by simp, .frozen ?_⟩
      refine Cmp_eqD ok .self .self (pureInts _) pureNil fun b hb => ⟨rfl, ?_⟩
      rw [Bool.eq_iff_iff, hb]
      cases freeL calls (goneAt calls ps i).1 c <;> simp [zs]
    · intro he
      refine AS_cons ?_
      refine AX_expr (by rw [← hX]; rfl) (by with_unfolding_all rfl) ?_
      refine AE_append ?_ (by rfl) (by with_unfolding_all rfl)
      walk_at "name"
      refine ⟨LA, _, rfl, by walk_at "mem", ?_⟩
      walk_at "name"
      refine ⟨(goneAt calls ps i).2.map tv, by walk_at "mem", by rw [List.length_map]; (first | lia | omega), ?_⟩
      refine AS_nil (AS_nil ⟨.inl rfl, .lst, ?_, ?_, by walk_at "loc", by walk_at "loc", by walk_at "loc", fun a bx e => mem_miss (hLA0 a bx e) (hfr a bx e)⟩)
      · rw [st1 he]; exact mem_miss nGL m1
      · rw [st1 he, List.map_append]; exact mem_hit
    · intro he
      obtain ⟨k, rest, hk⟩ : ∃ k rest, freeL calls (goneAt calls ps i).1 c = k :: rest := by
        cases e : freeL calls (goneAt calls ps i).1 c with
        | nil => exact absurd e he
        | cons k rest => exact ⟨k, rest, rfl⟩
      obtain ⟨hkl, st⟩ := st2 k rest hk
      refine AS_cons ?_
      walk_at "asn"
      walk_at "name"
      refine AG_itemN ?_
      walk_at "name"
      refine AE_subN (by intro _ _; rfl) ?_
      walk_at "name"
      refine AE_int ?_
      refine ⟨0, _, .int (k : Int), rfl, .lst, by (first | lia | omega), by rw [hk]; rfl, ?_⟩
      refine ⟨GA, _, k, rfl, rfl, by walk_at "mem", by rw [List.length_map]; (first | lia | omega), by rw [List.length_map]; (first | lia | omega), ?_⟩
      rw [show (cvs (goneAt calls ps i).1).set k (tv x) = cvs ((goneAt calls ps i).1.set k (some x)) from by rw [cvs, cvs, List.map_set]; rfl]
      refine AS_nil (AS_nil ⟨.inl rfl, .lst, ?_, ?_, by walk_at "loc", by walk_at "loc", by walk_at "loc", fun a bx e => mem_miss (fun q => by rw [q, hGA0] at e; cases e) (hfr a bx e)⟩)
      · rw [st]; exact mem_hit
      · rw [st]; exact mem_miss (Ne.symm nGL) m2
  · rintro fl σ2 ⟨rfl, ps, row, m1, m2, l1, l2, l3, hfr⟩
    rw [row.all] at m1 m2
    refine AS_freeze1 l2 m1 ?_
    refine AS_freeze1 (x := Str.ofString "left") (T := LA) (vs := (run (fun _ => true) calls []).2.map tv) (loc_miss (by decide) l3) (drop_other (Ne.symm nGL) m2) ?_
    refine AS_cons ?_
    refine AX_ret ?_
    refine AE_tuple ?_
    refine AEs_cons (by rfl) ?_
    refine AE_name ok (V := .lst (cvs (run (fun _ => true) calls []).1)) (loc_miss (by decide) (show ((σ2.drop GA).set (Str.ofString "gone") (.lst (cvs (run (fun _ => true) calls []).1))).loc (Str.ofString "gone") = _ from loc_hit)) ?_
    refine AEs_cons (by rfl) ?_
    refine AE_name ok loc_hit ?_
    refine AEs_nil ⟨by simp, ?_⟩
    rw [back_same (σ := σ) fun b hb => ?_]
    · exact h
    · obtain ⟨bx, e⟩ := Option.isSome_iff_exists.mp hb
      rw [e]
      exact drop_other (hLA0 b bx e) (drop_other (fun q => by rw [q, hGA0] at e; cases e) (hfr b bx e))
end Mine
end
section
open PySem PySem.W PyProof.Rows PySem.Calls
set_option maxRecDepth 100000
namespace Mine
local macro_rules | `(tactic| walk_at "loc") => `(tactic| first | assumption | with_reducible exact loc_hit | (with_reducible refine loc_put ?_; walk_at "loc") | (with_reducible refine loc_miss ?_ ?_; (· decide); walk_at "loc") | rfl)
local macro_rules | `(tactic| walk_at "ne") => `(tactic| first | assumption | (refine Ne.symm ?_; assumption))
local macro_rules | `(tactic| walk_at "mem") => `(tactic| first | assumption | with_reducible exact mem_hit | (with_reducible refine mem_set ?_; walk_at "mem") | (with_reducible refine mem_miss ?_ ?_; (· walk_at "ne"); walk_at "mem") | rfl)
local macro_rules | `(tactic| walk_at "name") => `(tactic| refine AE_name ‹Cx.Ok _ _› (by walk_at "loc") ?_)
local macro_rules | `(tactic| walk_at "asn") => `(tactic| refine AX_assign (by with_unfolding_all rfl) (by with_unfolding_all rfl) (by with_unfolding_all rfl) ?_)

structure Fns4 (B : Base) : Prop where
  pop : ∃ fa fd o, FnAt B (Str.ofString "_heappop_max") [Str.ofString "heap"] (d4 1).body (d4 1).scope fa fd o
  down : ∃ fa fd o, FnAt B (Str.ofString "_siftdown_max") [Str.ofString "heap", Str.ofString "startpos", Str.ofString "pos"] (d4 2).body (d4 2).scope fa fd o
  up : ∃ fa fd o, FnAt B (Str.ofString "_siftup_max") [Str.ofString "heap", Str.ofString "pos"] (d4 3).body (d4 3).scope fa fd o
  gone : ∃ fa fd o, FnAt B (Str.ofString "_law_gone") [Str.ofString "calls"] (d4 5).body (d4 5).scope fa fd o

theorem unset_loc {σ : St} {f y : Str} {V : Option Val} (h : (y == f) = false) (e : σ.loc y = V) : (⟨σ.mem, fun y => if y = f then none else σ.loc y⟩ : St).loc y = V := by
  show (if y = f then none else σ.loc y) = V
  rw [if_neg (by simpa using h)]; exact e
/-- what a number calls for -/
def callOf (k : Nat) (x : Int) : Option El := if x.fmod 5 < 3 then some [x.fdiv 5, -(k : Int)] else none
def callsOf (ns : List Int) : List (Option El) := ns.mapIdx callOf
theorem calls_said (ns : List Int) : Said (callsOf ns) := fun i x hx => by
  unfold callsOf at hx
  rw [List.getElem?_mapIdx] at hx
  cases e : ns[i]? with
  | none => rw [e] at hx; cases hx
  | some y =>
    rw [e] at hx
    have : callOf i y = some x := by simpa using hx
    unfold callOf at this
    split at this
    · exact ⟨_, (Option.some.inj this).symm⟩
    · cases this
def callV : Val → Val
  | .tup [.int k, .int x] => if x.fmod 5 < 3 then tv [x.fdiv 5, -k] else .none
  | _ => .none
theorem calls_vals (ns : List Int) : ((ns.map Val.int).mapIdx fun i v => Val.tup [.int (i : Int), v]).map callV = cvs (callsOf ns) := by
  unfold callsOf
  apply List.ext_getElem?
  intro i
  rw [List.getElem?_map, List.getElem?_mapIdx, List.getElem?_map, List.getElem?_map, List.getElem?_mapIdx]
  cases e : ns[i]? with
  | none => rfl
  | some x =>
    simp only [Option.map_some]
    congr 1
    show (if x.fmod 5 < 3 then tv [x.fdiv 5, -(i : Int)] else .none) = ov (callOf i x)
    unfold callOf
    split <;> rfl

/-- call by call -/
structure CaI (calls : List (Option El)) (HA TA : Addr) (i : Nat) (σ : St) : Prop where
  st : ∃ H : List El, σ.mem HA = some (.list (H.map tv)) ∧ HF H 0 ∧ H.Perm (toldAt calls i).2
  mt : σ.mem TA = some (.list (cvs (toldAt calls i).1))
  calls : σ.loc (Str.ofString "calls") = some (.lst (cvs calls))
  heap : σ.loc (Str.ofString "heap") = some (.ref HA)
  told : σ.loc (Str.ofString "told") = some (.ref TA)

set_option maxHeartbeats 8000000 in
theorem law_walk4 {B : Base} {n : Nat} {ns : List Int} (F : Free4 B) (N : Fns4 B) (hns : ns.length ≤ 63) :
    CallDF B (n + 3) [Str.ofString "script"] (d4 6).body (d4 6).scope [.lst (ns.map Val.int)] noSt (fun V _ => V = .bool true) := by
  intro A L qual fa code ok hfr
  generalize hX : (⟨B, A, fnFm L qual fa code (d4 6).scope, (d4 6).scope⟩ : Cx) = X at ok ⊢
  have hB : X.B = B := by rw [← hX]
  have hfr' : X.A.frames = some [X.env] := by rw [← hX]; exact hfr
  have hfl : X.f.frame = some X.f.L := by rw [← hX]; rfl
  obtain ⟨fa1, fd1, o1, N1⟩ := N.pop
  obtain ⟨fa2, fd2, o2, N2⟩ := N.down
  obtain ⟨fa3, fd3, o3, N3⟩ := N.up
  obtain ⟨fa5, fd5, o5, N5⟩ := N.gone
  conv => arg 2; whnf
  refine AS_cons ?_
  walk_at "asn"
  refine AE_bin ?_
  refine AE_list ?_
  refine AEs_cons (by rfl) ?_
  refine AE_int ?_
  refine AEs_cons (by rfl) ?_
  refine AE_int ?_
  refine AEs_cons (by rfl) ?_
  refine AE_int ?_
  refine AEs_cons (by rfl) ?_
  refine AE_int ?_
  refine AEs_cons (by rfl) ?_
  refine AE_int ?_
  refine AEs_cons (by rfl) ?_
  refine AE_int ?_
  refine AEs_cons (by rfl) ?_
  refine AE_int ?_
  refine AEs_cons (by rfl) ?_
  refine AE_int ?_
  refine AEs_cons (by rfl) ?_
  refine AE_int ?_
  refine AEs_cons (by rfl) ?_
  refine AE_int ?_
  refine AEs_nil ⟨by simp, .frozen ?_⟩
  walk_at "name"
  refine Op_addList .lst .lst (by simp; (first | lia | omega)) (.frozen ?_)
  obtain ⟨ds, hds, hdl⟩ : ∃ ds : List Int, [Val.int 3, Val.int 10, Val.int 25, Val.int 11, Val.int 15, Val.int 4, Val.int 8, Val.int 14, Val.int 20, Val.int 5] ++ ns.map Val.int = ds.map Val.int ∧ ds.length ≤ 73 :=
    ⟨[3, 10, 25, 11, 15, 4, 8, 14, 20, 5] ++ ns, by simp, by simp; (first | lia | omega)⟩
  rw [hds]
  refine AG_name ok (Writes_fn hX (by decide) (by decide +kernel)) ?_
  refine AS_cons ?_
  refine AX_assign_comp ok (CompOk_fn hX rfl (by decide) (by decide +kernel)) (by intro _; rfl) (by rw [← hX]; with_unfolding_all rfl) (Writes_fn hX (by decide) (by decide +kernel)) ?_
  refine AI_enum ok ⟨_, _, _, rfl⟩ (BName_fn hX F.enumerate (by decide) (by decide) (by rfl) (by rfl)) (by rfl) ?_
  walk_at "name"
  refine ⟨_, .lst, ?_⟩
  refine CompK_pure (fun _ => true) callV (by simp; (first | lia | omega)) (fun _ _ => .lst) ?_ ?_
  · intro C σ3 V okc hVm hmm hll
    obtain ⟨k, x, rfl⟩ : ∃ (k : Nat) (x : Int), V = .tup [.int (k : Int), .int x] := by
      obtain ⟨i, hi⟩ := List.mem_iff_getElem?.mp hVm
      rw [List.getElem?_mapIdx, List.getElem?_map] at hi
      cases e : ds[i]? with
      | none => rw [e] at hi; cases hi
      | some x => rw [e] at hi; exact ⟨i, x, by simpa using hi.symm⟩
    refine AG_tuple okc (by intro t ht e p q; simp at ht; rcases ht with rfl | rfl <;> cases q) rfl ?_
    show AG _ _ _ _ _
    refine AG_name okc (Writes_comp ok (by decide) (by rfl)) ?_
    show AG _ _ _ _ _
    refine AG_name okc (Writes_comp ok (by decide) (by rfl)) ?_
    refine ⟨⟨rfl, fun y hy => ?_⟩, rfl, rfl, fun _ => ?_⟩
    · rw [St.set_loc, if_neg (fun q => by rw [q] at hy; revert hy; decide), St.set_loc, if_neg (fun q => by rw [q] at hy; revert hy; decide)]; exact hll y hy
    · refine AE_ifd (x.fmod 5 < 3) (callV (.tup [.int (k : Int), .int x])) ?_ ?_ ?_ ⟨rfl, rfl⟩
      · refine AT_cmp rfl ?_
        refine AE_bin ?_
        refine AE_name okc loc_hit ?_
        refine AE_int ?_
        refine Op_mod (by decide) ?_
        refine AE_int ?_
        exact Cmp_lt ⟨rfl, rfl⟩
      · intro hx
        refine AE_tuple ?_
        refine AEs_cons (by rfl) ?_
        refine AE_bin ?_
        refine AE_name okc loc_hit ?_
        refine AE_int ?_
        refine Op_div (by decide) (PyProof.noPylong_small (by decide)) ?_
        refine AEs_cons (by rfl) ?_
        refine AE_neg ?_
        refine AE_name okc (V := .int (k : Int)) (loc_miss (by decide) loc_hit) ?_
        refine ⟨_, rfl, ?_⟩
        refine AEs_nil ⟨by simp, rfl, ?_⟩
        show _ = if x.fmod 5 < 3 then tv [x.fdiv 5, -(k : Int)] else .none
        rw [if_pos hx]; rfl
      · intro hx
        refine AE_none ⟨rfl, ?_⟩
        show _ = if x.fmod 5 < 3 then tv [x.fdiv 5, -(k : Int)] else .none
        rw [if_neg hx]
  refine .frozen ?_
  rw [List.filter_eq_self.mpr (by simp), calls_vals]
  have hsaid := calls_said ds
  have hcl : (callsOf ds).length ≤ 73 := by unfold callsOf; simpa using hdl
  generalize callsOf ds = calls at hsaid hcl ⊢
  refine AS_cons ?_
  walk_at "asn"
  refine AE_list ?_
  refine AEs_nil ⟨by simp, .tracked fun HA hHA => ?_⟩
  refine AG_name ok (Writes_fn hX (by decide) (by decide +kernel)) ?_
  refine AS_cons ?_
  walk_at "asn"
  refine AE_list ?_
  refine AEs_nil ⟨by simp, .tracked fun TA hTA => ?_⟩
  refine AG_name ok (Writes_fn hX (by decide) (by decide +kernel)) ?_
  have nHT : HA ≠ TA := ne_of_mem hTA (by walk_at "mem")
  refine AS_cons ?_
  refine Mine.T.mono (P := fun fl σ2 => fl = .next ∧ CaI calls HA TA calls.length σ2) ?_ ?_
  · refine AX_for ok (by intro _; rfl) ?_
    refine AI_list (.inl ⟨_, _, rfl⟩) ?_
    walk_at "name"
    refine ⟨_, .lst, ?_⟩
    refine ForL_inv (CaI calls HA TA) ?_ (fun σ' hI => ⟨rfl, by rw [List.length_map] at hI; exact hI⟩) ⟨⟨[], (show _ = some (Box.list []) from by walk_at "mem"), fun i hi => by simp at hi, by unfold toldAt; exact .refl _⟩, (show _ = some (Box.list []) from by walk_at "mem"), by walk_at "loc", by walk_at "loc", by walk_at "loc"⟩
    intro i σ2 V hV hI
    obtain ⟨⟨H, m1, hf, hp⟩, m2, l1, l2, l3⟩ := hI
    have hi : i < calls.length := by simpa using (List.getElem?_eq_some_iff.mp hV).1
    obtain ⟨c, hc⟩ : ∃ c, calls[i]? = some c := ⟨_, List.getElem?_eq_getElem hi⟩
    obtain rfl : V = ov c := by
      rw [List.getElem?_map, hc] at hV
      simpa using hV.symm
    have hHl : H.length ≤ 73 := by
      rw [hp.length_eq]
      have := told_small (calls := calls) i (by (first | lia | omega))
      (first | lia | omega)
    have tl := told_len (calls := calls) (i := i) (by (first | lia | omega))
    refine AG_name ok (Writes_fn hX (by decide) (by decide +kernel)) ?_
    refine AS_cons ?_
    refine AX_expr (by rw [← hX]; rfl) (by with_unfolding_all rfl) ?_
    refine AE_append ?_ (by rfl) (by with_unfolding_all rfl)
    walk_at "name"
    refine ⟨TA, _, rfl, by walk_at "mem", ?_⟩
    refine AE_none ?_
    refine ⟨cvs (toldAt calls i).1, by walk_at "mem", by rw [List.length_map]; (first | lia | omega), ?_⟩
    refine AS_cons ?_
    refine AX_ifd (c ≠ none) ?_ ?_ ?_
    · refine AT_cmp rfl ?_
      walk_at "name"
      refine AE_none ?_
      refine Cmp_isnot ⟨rfl, ?_⟩
      rw [ov_none]; simp
    · intro hcn
      obtain ⟨x, rfl⟩ := Option.ne_none_iff_exists'.mp hcn
      have tp := told_push hc
      refine AS_cons ?_
      refine AX_expr (by rw [← hX]; rfl) (by with_unfolding_all rfl) ?_
      refine AE_append ?_ (by rfl) (by with_unfolding_all rfl)
      walk_at "name"
      refine ⟨HA, _, rfl, by walk_at "mem", ?_⟩
      walk_at "name"
      refine ⟨H.map tv, by walk_at "mem", by rw [List.length_map]; (first | lia | omega), ?_⟩
      rw [show H.map tv ++ [ov (some x)] = (H ++ [x]).map tv from by rw [List.map_append]; rfl]
      refine AS_cons ?_
      refine AX_expr (by rw [← hX]; rfl) (by with_unfolding_all rfl) ?_
      refine AE_call ok (hB ▸ N2) (by rw [← hX]; rfl) (by decide) (by rfl) ?_
      refine AEs_cons (by rfl) ?_
      walk_at "name"
      refine AEs_cons (by rfl) ?_
      refine AE_int ?_
      refine AEs_cons (by rfl) ?_
      refine AE_bin ?_
      refine AE_builtin ok (BName_fn hX F.len (by decide) (by decide) (by rfl) (by rfl)) (by rfl) (by rfl) ?_
      refine AEs_cons (by rfl) ?_
      walk_at "name"
      refine AEs_nil ?_
      refine BC_len (.ref mem_hit) (by simp; (first | lia | omega)) ?_
      refine AE_int ?_
      refine Op_sub ?_
      rw [show (((H ++ [x]).map tv).length : Int) - 1 = (H.length : Int) from by simp]
      refine AEs_nil ⟨rfl, ?_⟩
      refine push_walk4 mem_hit (by (first | lia | omega)) hf fun H' r1 r2 => ?_
      refine AS_nil (AS_nil ⟨.inl rfl, .lst, ⟨H', mem_hit, r2, ?_⟩, ?_, by walk_at "loc", by walk_at "loc", by walk_at "loc"⟩)
      · rw [tp]
        exact (r1.trans (hp.append_right _)).trans (ins_perm x _).symm
      · rw [tp]
        refine mem_miss (Ne.symm nHT) (mem_miss (Ne.symm nHT) ?_)
        rw [show cvs ((toldAt calls i).1 ++ [none]) = cvs (toldAt calls i).1 ++ [Val.none] from by rw [cvs, List.map_append]; rfl]
        exact mem_hit
    · intro hcn
      obtain rfl : c = none := Classical.not_not.mp hcn
      have tp := told_pop hc
      have hd := told_desc hsaid i (by (first | lia | omega))
      refine AS_cons ?_
      have last : cvs (toldAt calls i).1 ++ [Val.none] = cvs ((toldAt calls i).1 ++ [none]) := by rw [cvs, cvs, List.map_append]; rfl
      by_cases hH : H = []
      · subst hH
        have hD : (toldAt calls i).2 = [] := List.nil_perm.mp hp
        refine AX_tryE ok hfr' hfl (hB ▸ N1) (by rfl) (fun X' => ⟨_, by with_unfolding_all rfl⟩) (a := HA) ?h1 ?h2 (by rw [← hX]; rfl) (BName_fn hX F.index (by decide) (by decide) (by rfl) (by rfl)) (BName_fn hX F.str (by decide) (by decide) (by rfl) (by rfl)) (by rw [← hX]; rfl) ?hs ?hw ?_
        case h1 => walk_at "loc"
        case h2 => exact mem_miss nHT m1
        case hs => with_unfolding_all rfl
        case hw => with_unfolding_all rfl
        refine AS_nil (AS_nil ⟨.inl rfl, .lst, ⟨[], (show _ = some (Box.list []) from mem_miss nHT m1), hf, ?_⟩, ?_, ?_, ?_, ?_⟩)
        · rw [tp, hD]; exact .refl _
        · rw [tp, hD]
          show _ = some (Box.list (cvs ((toldAt calls i).1 ++ [none])))
          rw [← last]
          exact mem_hit
        · refine unset_loc (by decide) ?_; walk_at "loc"
        · refine unset_loc (by decide) ?_; walk_at "loc"
        · refine unset_loc (by decide) ?_; walk_at "loc"
      · refine AX_try ?_
        refine AS_cons ?_
        walk_at "asn"
        refine AE_call ok (hB ▸ N1) (by rw [← hX]; rfl) (by decide) (by rfl) ?_
        refine AEs_cons (by rfl) ?_
        walk_at "name"
        refine AEs_nil ⟨rfl, ?_⟩
        refine pop_walk4 (hB ▸ N2) (hB ▸ F.len) (hB ▸ N3) (H := H) (by walk_at "mem") (by (first | lia | omega)) hf hH fun x H' hx1 hx2 hx3 hx4 => ?_
        have hhd := top_head hp hd hx1 hx2
        obtain ⟨D', hD'⟩ : ∃ D', (toldAt calls i).2 = x :: D' := by
          cases e : (toldAt calls i).2 with
          | nil => rw [e] at hhd; cases hhd
          | cons d D' => rw [e] at hhd; cases hhd; exact ⟨D', rfl⟩
        refine AG_item ?_
        walk_at "name"
        refine AE_neg ?_
        refine AE_int ?_
        refine ⟨_, rfl, ?_⟩
        refine ⟨TA, cvs (toldAt calls i).1 ++ [Val.none], -1, rfl, rfl, by walk_at "mem", .inr ⟨by decide, by decide, by simp only [List.length_append, List.length_singleton]; (first | lia | omega), ?_⟩⟩
        rw [show (-1 + ((cvs (toldAt calls i).1 ++ [Val.none]).length : Int)).toNat = (cvs (toldAt calls i).1).length from by
          have e1 : (cvs (toldAt calls i).1 ++ [Val.none]).length = (cvs (toldAt calls i).1).length + 1 := by simp only [List.length_append, List.length_singleton]
          rw [e1]; (first | lia | omega), List.set_append_right _ _ (Nat.le_refl _), Nat.sub_self]
        refine AS_nil (AS_nil (AS_nil ⟨.inl rfl, .lst, ⟨H', ?_, hx4, ?_⟩, ?_, by walk_at "loc", by walk_at "loc", by walk_at "loc"⟩))
        · exact mem_miss nHT mem_hit
        · rw [tp, hD']
          exact (List.perm_cons x).mp (hx3.trans (hp.trans (List.Perm.of_eq hD')))
        · rw [tp, hD']
          rw [show cvs ((toldAt calls i).1 ++ [(x :: D').head?]) = cvs (toldAt calls i).1 ++ [Val.none].set 0 (tv x) from by rw [cvs, List.map_append]; rfl]
          exact mem_hit
  · rintro fl σ2 ⟨rfl, ⟨H, m1, hf, hp⟩, m2, l1, l2, l3⟩
    have e0 : toldAt calls calls.length = run (fun _ => true) calls [] := by unfold toldAt; rw [List.take_length]
    have hd := told_desc hsaid calls.length (Nat.le_refl _)
    have hsm := told_small (calls := calls) calls.length (Nat.le_refl _)
    rw [e0] at hp m2 hd hsm
    have hHl : H.length ≤ 73 := by rw [hp.length_eq]; (first | lia | omega)
    refine AS_cons ?_
    walk_at "asn"
    refine AE_call ok (hB ▸ N5) (by rw [← hX]; rfl) (by decide) (by rfl) ?_
    refine AEs_cons (by rfl) ?_
    walk_at "name"
    refine AEs_nil ⟨rfl, ?_⟩
    refine gone_walk4 (hB ▸ F) hcl hsaid ?_
    refine AG_tuple ok (by intro t ht e p q; simp at ht; rcases ht with rfl | rfl <;> cases q) rfl ?_
    show AG _ _ _ _ _
    refine AG_name ok (Writes_fn hX (by decide) (by decide +kernel)) ?_
    show AG _ _ _ _ _
    refine AG_name ok (Writes_fn hX (by decide) (by decide +kernel)) ?_
    show AS _ _ _ _
    have pureC : ∀ l : List (Option El), pureV 8 (.lst (cvs l)) := fun l => pureV_lst.mpr fun v hv => by
      obtain ⟨c, _, rfl⟩ := List.mem_map.mp hv
      cases c with
      | none => exact pureV_none
      | some x => exact pureT' x
    refine AS_cons ?_
    refine Mine.T.mono (P := fun fl σ' => fl = .next ∧ σ' = (σ2.set (Str.ofString "gone") (.lst (cvs (run (fun _ => true) calls []).1))).set (Str.ofString "left") (.lst ((run (fun _ => true) calls []).2.map tv))) ?_ ?_
    · refine AX_ifd False ?_ (fun h => h.elim) (fun _ => AS_nil ⟨rfl, rfl⟩)
      refine AT_or ?_
      refine AT_cmp rfl ?_
      walk_at "name"
      walk_at "name"
      refine Cmp_neD ok (View.ref (vs := cvs (run (fun _ => true) calls []).1) (by walk_at "mem")) View.self (pureC _) (pureC _) fun b hb => ⟨fun z => absurd rfl (hb.mp z), fun _ => ?_⟩
      refine AT_cmp rfl ?_
      refine AE_builtinR ok (BName_fn hX F.sorted (by decide) (by decide) (by rfl) (by rfl)) (by rfl) ?_
      refine AEs_cons (by rfl) ?_
      walk_at "name"
      refine AEs_nil ?_
      refine BC_sortedR _ (l := H) (.ref (by walk_at "mem")) (by (first | lia | omega)) (fun x hx => ?_) fun l' p1 p2 => .frozen ?_
      · obtain ⟨j, _, hj⟩ := told_from calls.length (Nat.le_refl _) x (by rw [e0]; exact hp.mem_iff.mp hx)
        obtain ⟨v, e⟩ := hsaid j x hj
        rw [e]; simp
      have e : l' = (run (fun _ => true) calls []).2 := desc_uniq (p1.trans hp) p2 hd.ge
      subst e
      walk_at "name"
      refine Cmp_neD ok .self .self (pureTs _) (pureTs _) fun b hb => ⟨rfl, ?_⟩
      rw [Bool.eq_iff_iff, hb]
      simp
    rintro fl σ' ⟨rfl, rfl⟩
    refine AS_cons ?_
    refine AX_ret ?_
    refine AE_cmp rfl ?_
    refine AE_comp ok (CompOk_fn hX rfl (by decide) (by decide +kernel)) (by intro _; rfl) ?_
    refine AI_range2 ok ⟨_, _, rfl⟩ (BName_fn hX F.range (by decide) (by decide) (by rfl) (by rfl)) (by rfl) (by rfl) ?_
    refine AE_int ?_
    refine AE_builtin ok (BName_fn hX F.len (by decide) (by decide) (by rfl) (by rfl)) (by rfl) (by rfl) ?_
    refine AEs_cons (by rfl) ?_
    walk_at "name"
    refine AEs_nil ?_
    refine BC_len (vs := H.map tv) (.ref (by walk_at "mem")) (by simp; (first | lia | omega)) ?_
    rw [List.length_map]
    refine ⟨_, _, rfl, rfl, small_1 (by (first | lia | omega)) (by (first | lia | omega)) (by (first | lia | omega)) (by (first | lia | omega)), ?_⟩
    have er : (rangeL 1 (H.length : Int) 1).map Val.int = nv ((List.range (H.length - 1)).map fun j => j + 1) := by
      rw [rangeL_1, nv_eq, List.map_map, List.map_map, show ((H.length : Int) - 1).toNat = H.length - 1 from by (first | lia | omega)]
      apply List.map_congr_left
      intro j _
      show Val.int (1 + (j : Int)) = Val.int ((j + 1 : Nat) : Int)
      congr 1; (first | lia | omega)
    rw [er]
    refine CompK_pure (fun _ => false) id (by simp [zs_len]; (first | lia | omega)) (fun _ _ => trivial) ?_ ?_
    · intro C σ3 V okc hVm hmm hll
      obtain ⟨k, hk, rfl⟩ := nv_mem hVm
      have hk' : 1 ≤ k ∧ k < H.length := by
        obtain ⟨j, hj, rfl⟩ := List.mem_map.mp hk
        have := List.mem_range.mp hj
        (first | lia | omega)
      obtain ⟨x, hx⟩ : ∃ x, H[k]? = some x := ⟨_, List.getElem?_eq_getElem hk'.2⟩
      obtain ⟨y, hy⟩ : ∃ y, H[(k - 1) / 2]? = some y := ⟨_, List.getElem?_eq_getElem (by (first | lia | omega))⟩
      have hm3 : σ3.mem HA = some (.list (H.map tv)) := hmm HA _ m1
      refine AG_name okc (Writes_comp ok (by decide) (by rfl)) ?_
      refine ⟨⟨rfl, fun y hy => ?_⟩, ?_⟩
      · rw [St.set_loc, if_neg (fun q => by rw [q] at hy; revert hy; decide)]; exact hll y hy
      · refine ATs_one ?_
        refine AT_cmp rfl ?_
        refine AE_subN (by intro _ _; rfl) ?_
        refine AE_name okc (V := .ref HA) (loc_miss (by decide) ((hll _ (by rfl)).trans (by walk_at "loc"))) ?_
        refine AE_bin ?_
        refine AE_bin ?_
        refine AE_name okc loc_hit ?_
        refine AE_int ?_
        refine Op_sub ?_
        refine AE_int ?_
        refine Op_div (by decide) (PyProof.noPylong_small (by decide)) ?_
        refine ⟨(k - 1) / 2, _, _, ?_, .ref hm3, by (first | lia | omega), map_get hy, ?_⟩
        · congr 1
          rw [Int.fdiv_eq_ediv_of_nonneg _ (by decide)]; (first | lia | omega)
        refine AE_subN (by intro _ _; rfl) ?_
        refine AE_name okc (V := .ref HA) (loc_miss (by decide) ((hll _ (by rfl)).trans (by walk_at "loc"))) ?_
        refine AE_name okc loc_hit ?_
        refine ⟨k, _, _, rfl, .ref hm3, by (first | lia | omega), map_get hx, ?_⟩
        refine Cmp_ltT okc ⟨rfl, ?_, fun q => ?_⟩
        · have := hf k hk'.2 hk'.1 (Nat.zero_le _)
          rw [g_of hx, g_of hy] at this
          exact this
        · have := hf k hk'.2 hk'.1 (Nat.zero_le _)
          rw [g_of hx, g_of hy] at this
          rw [this] at q; cases q
    refine .frozen ?_
    rw [List.filter_eq_nil_iff.mpr (by simp)]
    refine AE_list ?_
    refine AEs_nil ⟨by simp, .frozen ?_⟩
    refine Cmp_eqD ok .self .self pureNil pureNil fun b hb => ?_
    show Val.bool b = .bool true
    rw [hb.mpr rfl]
end Mine
end
section
open PySem PySem.W PyProof.Rows
set_option maxRecDepth 100000
set_option maxHeartbeats 8000000
namespace Mine
open_top hd4 for PySem.Challenge.rw_dp0038_04
end Mine
end
section
open PySem PySem.W PyProof.Rows PySem.Calls
set_option maxRecDepth 100000
set_option maxHeartbeats 8000000
namespace Mine
theorem recs4 : recsOf hd4.view_39 = [d4 1, d4 2, d4 3, d4 5, d4 6] := by rfl

theorem top4 {loose : List Str} {mean : ExcName → Option Value} {mg mb : Str → Option Value} {h : Heap} (T : Top hd4.view_39 loose mean mg mb h) (hl : loose = []) {prog : Program} {w : World} {os : OsState} :
    Fns4 ⟨prog, w, h, os, mg, mb⟩ ∧ Free4 ⟨prog, w, h, os, mg, mb⟩ ∧ ∃ fa fd o, FnAt ⟨prog, w, h, os, mg, mb⟩ (Str.ofString "law") [Str.ofString "script"] (d4 6).body (d4 6).scope fa fd o := by
  subst hl
  refine ⟨⟨?_, ?_, ?_, ?_⟩, ⟨?_, ?_, ?_, ?_, ?_, ?_⟩, ?_⟩
  · refine FnAt_of_top T (d := d4 1) (by rw [recs4]; simp) ?_ (by decide) (by decide +kernel) (by decide +kernel) rfl rfl rfl
    intro pm code doc vals h
    match vals, h with
    | [a], _ => rfl
  · refine FnAt_of_top T (d := d4 2) (by rw [recs4]; simp) ?_ (by decide) (by decide +kernel) (by decide +kernel) rfl rfl rfl
    intro pm code doc vals h
    match vals, h with
    | [a, b, c], _ => rfl
  · refine FnAt_of_top T (d := d4 3) (by rw [recs4]; simp) ?_ (by decide) (by decide +kernel) (by decide +kernel) rfl rfl rfl
    intro pm code doc vals h
    match vals, h with
    | [a, b], _ => rfl
  · refine FnAt_of_top T (d := d4 5) (by rw [recs4]; simp) ?_ (by decide) (by decide +kernel) (by decide +kernel) rfl rfl rfl
    intro pm code doc vals h
    match vals, h with
    | [a], _ => rfl
  all_goals first | exact T.free _ (by decide +kernel) (by decide +kernel) (by decide +kernel) (by decide +kernel) (by decide +kernel) | skip
  · refine FnAt_of_top T (d := d4 6) (by rw [recs4]; simp) ?_ (by decide) (by decide +kernel) (by decide +kernel) rfl rfl rfl
    intro pm code doc vals h
    match vals, h with
    | [a], _ => rfl
end Mine
open Mine
theorem PySem.Challenge.cw_dp0038_04_holds : PySem.Challenge.rw_dp0038_04.Holds := by
  refine hd4 ?_
  intro w s₀ s₁ mg mb G Y fa o pm cd doc dV kV ho hd hcd hD hmg hg args vals as hpre hlay hrd hwl hlo
  refine Ground.open G ?_
  intro T B D TE TW
  wrow_args hpre hlay hrd hwl hlo
  rename_i ns hs hlay0 hLy hr1 hl2 as1 as2 a vs as3 hL ra w1 r0 hI hr2 hc1 hc2
  obtain ⟨N, F, fa', fd', o', FL⟩ := top4 T rfl (prog := PySem.Challenge.rw_dp0038_04.row.prog) (w := w) (os := s₁.os)
  have efa : fa = fa' := by
    have e1 := FL.glob
    have e2 : mg (Str.ofString "law") = some (.ref fa) := hmg
    have e3 : mg (Str.ofString "law") = some (.ref fa') := e1
    rw [e2] at e3; cases e3; rfl
  subst efa
  have hsq : s₁.heap.get? a = some { cls := .type "list", data := .seq vs.toArray } := by
    cases w1 with
    | list e _ =>
      obtain ⟨o1, h1, _, k1, h2⟩ := hL
      rw [e] at h1; cases h1
      simp only [Data.seq.injEq] at h2
      obtain ⟨h2, _⟩ := h2
      rw [e, h2]
  have run := call_topF (B := ⟨PySem.Challenge.rw_dp0038_04.row.prog, w, s₁.heap, s₁.os, mg, mb⟩) (n := 10) (A := callerA) ⟨T.g, T.b, T.builtins, T.nolimit⟩ rfl rfl (by decide) (by decide) FL (s := s₁) (vs := [.ref a]) (Vs := [.lst (ns.map Val.int)]) rfl hg rfl
    (.cons (.lst hsq rfl (RVs.of_ints hI)) .nil) rfl (law_walk4 F N (by (first | lia | omega)))
  refine wpAny_mono run ?_ fun _ _ e => e.elim
  rintro v s' ⟨V, σ', mem, rv, rfl, keep, hos, hgens⟩
  obtain rfl := rv.bool_inv
  refine GoodW.toG ⟨.inl ⟨.bool true, .bool true, [], rfl, fun _ => rfl, ?_, ?_, ?_⟩, keep, hos, hgens⟩
  · exact .bool true
  · wrow_post
  · intro _; exact ⟨List.nodup_nil, fun _ h => nomatch h⟩
end
